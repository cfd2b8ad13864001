/- Blocks, by the walker. -/
import Derived.Test.YtpapfokdhmpmjaaVRd2
import Derived.Test.YtpapfokdhmpmjaaVEnc2
import Derived.Test.YtpapfokdhmpmjaaVLight
import Derived.Test.YtpapfokdhmpmjaaVxRds
import Derived.Test.YtpapfokdhmpmjaaPath
namespace Go.Proofs.Ytpapfokdhmpmjaa
open Go.RowKit
set_option linter.unusedVariables false
set_option linter.unusedSimpArgs false

structure Bl where
  chain : List UInt8
  height : Int
  time : Int
  evs : List Ev

def mayBl (b : Bl) : Bool := nameOk b.chain && between b.height 1 1099511627776 && between b.time 0 1099511627776 && b.evs.all mayEv && decide (b.evs.length ≤ 1073741824)
def rHead (l : List UInt8) (s : Int × Int) : (List UInt8 × Int) × Int × Int :=
  let a := rText 12 l s
  let b := rNum 1 1099511627776 l a.2
  ((a.1, b.1), b.2)
def peekBl (l : List UInt8) : List UInt8 × Int × Int :=
  if (rHead l (0, 0)).2.2 ≠ 0 then ([], 0, (rHead l (0, 0)).2.2)
  else if nameOk (rHead l (0, 0)).1.1 then ((rHead l (0, 0)).1.1, (rHead l (0, 0)).1.2, 0) else ([], 0, 1)

namespace Vx
def evAt (cs : List CV) : Ev := (evOf cs).getD zeroEv
def evsOf (n : Nat) (get : Nat → List CV) : List Ev := (List.range n).map fun i => evAt (get i)
def lightBl (c : List UInt8) (n : Nat) (get : Nat → List CV) : Bool := decide (c.length ≤ 60) && lightEvs n get
structure BlAt (c : List UInt8) (n : Nat) (get : Nat → List CV) : Prop where
  c : c.length ≤ 9223372036854775807
  evs : EvsAt n get
  n : n ≤ 9223372036854775807
theorem EvsAt.same {n : Nat} {get : Nat → List CV} (h : EvsAt n get) : SameV [(n, get)] [(n, fun i => evC (evAt (get i)))] := SameV.one fun i hi => by
  obtain ⟨x, h1, _⟩ := h i hi
  unfold evAt
  rw [h1]
  exact evOf_spec h1
theorem EvsAt.fits {n : Nat} {get : Nat → List CV} (h : EvsAt n get) (i : Nat) (hi : i < n) : (evAt (get i)).fits := by
  obtain ⟨x, h1, h2⟩ := h i hi
  unfold evAt
  rw [h1]
  exact h2
def sName : List SV → Option (Prop × SV)
  | [.c (.str l)] => some (l.length ≤ 9223372036854775807, .c (.bool (nameOk l)))
  | _ => none

theorem pathNameB (l : List UInt8) (W : World) (hl : l.length ≤ 9223372036854775807) :
    Calls Try.prog 40 #[.string ⟨l.toArray⟩] W fun e w' => e = .returned (.bool (nameOk l)) ∧ Below W.heap.size W w' := by
  refine (pathName l W hl).mono ?_
  rintro e w' ⟨he, rfl⟩
  exact ⟨he, Below.refl _ _⟩

theorem nameP : Pure Try.prog 40 sName := by
  refine ⟨by kernel_rfl, fun args pre r h hp us hs W => ?_⟩
  unfold sName at h
  split at h
  rotate_left
  · cases h
  rename_i l
  cases h
  obtain ⟨u0, _, rfl, a0, b0⟩ := hs
  obtain rfl : .string ⟨(l).toArray⟩ = u0 := Option.some.inj a0
  cases b0
  refine Calls.mono (pathNameB l W hp) fun e W' he => ?_
  obtain ⟨rfl, hb⟩ := he
  exact ⟨_, rfl, rfl, hb⟩

def sPeek : List SV → Option (Prop × SV)
  | [.c (.str l)] => some (l.length ≤ 140737488351232, .tup [(some (.str (peekBl l).1), []), (some (.int .i64 (peekBl l).2.1), []), (some (.int .i64 (peekBl l).2.2), [])])
  | _ => none

set_option maxRecDepth 100000 in
set_option maxHeartbeats 400000 in
theorem peekP : Pure Try.prog 19 sPeek := by
  refine Pure.of (E := tb) (C := [(41, appMakes 86 sOf), (42, appMeth 86 sRdText), (43, appMeth 86 sRdNum), (44, appMeth 86 sRdErr), (40, appPure sName)]) [] 0 [] tb_ok (CtsOk.cons (Makes.ct ofP) <| CtsOk.cons (Meth.ct rdTextP) <| CtsOk.cons (Meth.ct rdNumP) <| CtsOk.cons (Meth.ct rdErrP) <| CtsOk.cons (Pure.ct nameP) <| CtsOk.nil _) (by kernel_rfl) Try.func19 rfl rfl rfl (by kernel_rfl) (by kernel_rfl) ?_ ?_
  · intro args pre r h
    unfold sPeek at h
    split at h
    · cases h; first | rfl | exact ⟨rfl, rfl⟩
    · cases h
  · intro args pre r h hp
    unfold sPeek at h
    split at h
    rotate_left
    · cases h
    rename_i l
    cases h
    unfold sOf sRdText sRdNum sRdErr sName
    generalize hg0 : textS = g0
    generalize hg1 : numS = g1
    generalize hg2 : okRd = g2
    generalize hg3 : peekBl = g3
    generalize hg4 : nameOk = g4
    generalize hg5 : (List.length : List UInt8 → Nat) = g5
    generalize hA : Arith.std = A
    cbv
    subst hA hg0 hg1 hg2 hg3 hg4 hg5
    have h0 : okRd l 0 0 := ok_start hp
    have hl := text_len l 0 0 12
    refine Need.mk trivial fun _ => ?_
    refine Need.mk h0 fun _ => ?_
    refine Need.mk (ok_text h0) fun _ => ?_
    refine Need.mk trivial fun _ => ?_
    refine Ife.mk (fun h => ?_) (fun h => ?_)
    · have h : (numS l (textS l 0 0 12).2.1 (textS l 0 0 12).2.2 1 1099511627776).2.2 ≠ 0 := by simpa [Arith.std] using h
      refine Need.mk trivial fun _ => ?_
      simp [peekBl, rHead, rText, rNum, h]
    · have h : (numS l (textS l 0 0 12).2.1 (textS l 0 0 12).2.2 1 1099511627776).2.2 = 0 := by simpa [Arith.std] using h
      refine Need.mk (Nat.le_trans hl (Nat.le_trans hp (by decide))) fun _ => ?_
      refine Ife.mk (fun h2 => ?_) (fun h2 => ?_)
      · have h2 : nameOk (textS l 0 0 12).1 = false := by simpa [Arith.std] using h2
        simp [peekBl, rHead, rText, rNum, h, h2]
      · have h2 : nameOk (textS l 0 0 12).1 = true := by simpa [Arith.std] using h2
        simp [peekBl, rHead, rText, rNum, h, h2]

def sLight : SpecR
  | [.agg [.str c, .int .i64 ht, .int .i64 tm, .row 0]], [(n, get)] => some (BlAt c n get, .c (.bool (lightBl c n get)))
  | _, _ => none

def sLightB : SpecR
  | [.c (.row 0)], [(n, get)] => some (EvsAt n get, .c (.bool (lightEvs n get)))
  | _, _ => none

theorem lightBP : Rds Try.prog 11 13 sLightB := by
  refine ⟨lightEvsP.fn, fun args vs pre res h hp W ps us g hs => ?_⟩
  unfold sLightB at h
  split at h
  rotate_left
  · cases h
  rename_i n get
  cases h
  obtain ⟨u, us', rfl, hu, hnil⟩ := hs
  cases hnil
  obtain ⟨p, hpk, rfl⟩ := den_row hu
  obtain ⟨⟨a, cap, hpv, ha⟩, hlt, hget⟩ := g.2 0 (n, get) p rfl hpk
  rw [hpv]
  exact lightEvsP.run n get _ _ rfl hp W a cap ⟨p.b, p.o, fun hn => ⟨ha hn, hlt hn⟩, hget⟩

set_option maxRecDepth 100000 in
set_option maxHeartbeats 1000000 in
theorem lightBlP : Rds Try.prog 16 13 sLight := by
  have hC : CtsOk Try.prog [(11, appRds 13 sLightB)] := CtsOk.cons (Rds.ct lightBP) <| CtsOk.nil _
  refine Rds.of (E := tb) [] 0 [] tb_ok hC (by kernel_rfl) Try.func16 rfl rfl rfl (by kernel_rfl) (by kernel_rfl) 27 1 ?_ ?_
  · intro args vs pre r h
    unfold sLight at h
    split at h
    · cases h; exact ⟨rfl, rfl⟩
    · cases h
  · intro args vs pre r h hp
    unfold sLight at h
    split at h
    rotate_left
    · cases h
    rename_i c ht tm n get
    cases h
    refine ⟨_, SameV.refl _, ?_⟩
    unfold sLightB
    generalize hg0 : lightEvs = g0
    generalize hg1 : EvsAt = g1
    generalize hg2 : (List.length : List UInt8 → Nat) = g2
    generalize hg3 : lightBl = g3
    generalize hA : Arith.std = A
    cbv
    subst hA hg0 hg1 hg2 hg3
    refine Ife.mk (fun h => ?_) (fun h => ?_)
    · have h : (c.length : Int) ≤ 60 := of_decide_eq_true (p := (c.length : Int) ≤ 60) h
      have h' : c.length ≤ 60 := by omega
      refine Need.mk hp.evs fun _ => ?_
      simp [lightBl, h']
    · have h : ¬ (c.length : Int) ≤ 60 := of_decide_eq_false (p := (c.length : Int) ≤ 60) h
      have h' : ¬ c.length ≤ 60 := by omega
      simp [lightBl, h']

def sMayBl : SpecR
  | [.agg [.str c, .int .i64 ht, .int .i64 tm, .row 0]], [(n, get)] => some (BlAt c n get, .c (.bool (mayBl ⟨c, ht, tm, evsOf n get⟩)))
  | _, _ => none

structure LM (get : Nat → List CV) (n : Nat) where
  i : Int
  h0 : 0 ≤ i
  h1 : i ≤ (n : Int)
  h2 : ∀ j : Nat, (j : Int) < i → mayEv (evAt (get j)) = true

theorem all_evs {n : Nat} {get : Nat → List CV} {p : Ev → Bool} : (evsOf n get).all p = true ↔ ∀ j : Nat, j < n → p (evAt (get j)) = true := by
  unfold evsOf
  rw [List.all_eq_true]
  simp

set_option maxRecDepth 100000 in
set_option maxHeartbeats 1000000 in
theorem mayBlP : Rds Try.prog 17 13 sMayBl := by
  have hC : CtsOk Try.prog [(40, appPure sName), (13, appPure sMayEv)] := CtsOk.cons (Pure.ct nameP) <| CtsOk.cons (Pure.ct mayP) <| CtsOk.nil _
  refine Rds.of (E := tb) [] 0 [] tb_ok hC (by kernel_rfl) Try.func17 rfl rfl rfl (by kernel_rfl) (by kernel_rfl) 27 1 ?_ ?_
  · intro args vs pre r h
    unfold sMayBl at h
    split at h
    · cases h; exact ⟨rfl, rfl⟩
    · cases h
  · intro args vs pre r h hp
    unfold sMayBl at h
    split at h
    rotate_left
    · cases h
    rename_i c ht tm n get
    cases h
    refine ⟨_, hp.evs.same, ?_⟩
    unfold sName sMayEv
    generalize hg0 : evAt = g0
    generalize hg1 : mayEv = g1
    generalize hg2 : nameOk = g2
    generalize hg3 : Ev.fits = g3
    generalize hg4 : mayBl = g4
    generalize hg5 : evsOf = g5
    generalize hg6 : (List.length : List UInt8 → Nat) = g6
    generalize hL : lft Try.prog _ = L
    generalize hA : Arith.std = A
    cbv
    subst hA hg0 hg1 hg2 hg3 hg4 hg5 hg6 hL
    have hB : ∀ (a b d e f : Bool), (a && b && d && e && f) = false ↔ (a = false ∨ b = false ∨ d = false ∨ e = false ∨ f = false) := by decide
    refine Need.mk hp.c fun _ => ?_
    refine Ife.mk (fun h => ?_) (fun h1 => ?_)
    · have h : nameOk c = false := by simpa [Arith.std] using h
      simp [mayBl, h]
    refine Ife.mk (fun h => ?_) (fun h2 => ?_)
    · have h : ht < 1 := of_decide_eq_true (p := ht < 1) h
      exact (hB _ _ _ _ _).2 (.inr (.inl (decide_eq_false (by simp only; omega))))
    refine Ife.mk (fun h => ?_) (fun h3 => ?_)
    · have h : 1099511627776 < ht := of_decide_eq_true (p := 1099511627776 < ht) h
      exact (hB _ _ _ _ _).2 (.inr (.inl (decide_eq_false (by simp only; omega))))
    refine Ife.mk (fun h => ?_) (fun h4 => ?_)
    · have h : tm < 0 := of_decide_eq_true (p := tm < 0) h
      exact (hB _ _ _ _ _).2 (.inr (.inr (.inl (decide_eq_false (by simp only; omega)))))
    refine Ife.mk (fun h => ?_) (fun h5 => ?_)
    · have h : 1099511627776 < tm := of_decide_eq_true (p := 1099511627776 < tm) h
      exact (hB _ _ _ _ _).2 (.inr (.inr (.inl (decide_eq_false (by simp only; omega)))))
    have h1 : nameOk c = true := by simpa [Arith.std] using h1
    have h2 : ¬ ht < 1 := of_decide_eq_false (p := ht < 1) h2
    have h3 : ¬ 1099511627776 < ht := of_decide_eq_false (p := 1099511627776 < ht) h3
    have h4 : ¬ tm < 0 := of_decide_eq_false (p := tm < 0) h4
    have h5 : ¬ 1099511627776 < tm := of_decide_eq_false (p := 1099511627776 < tm) h5
    have hn := hp.n
    show Runs Try.prog 1 (.loop _) _ _
    refine loop_rule (N := env (lft Try.prog 1) 0 .std tb [(40, appPure sName), (13, appPure sMayEv)] []) rfl tb_ok hC (fun c st K _ h => h) (by kernel_rfl) [] (X := LM get n)
      (S := fun x => ⟨[.any, .c (.ptr 1 0)] ++ List.replicate 28 .any ++ [.c (.row 0), .c (.int .i64 n), .c (.int .i64 x.i)] ++ List.replicate 11 .any, [.elems 27 13 n (fun i => evC (evAt (get i))), .cells 40 [.str c, .int .i64 ht, .int .i64 tm, .row 0]]⟩) (μ := fun x => n - x.i.toNat) ⟨0, by omega, by omega, fun j hj => by omega⟩ (by kernel_rfl) (fun x => show 1 ≤ 2 from by decide) ?_ ?_
    · refine And.intro ?_ ?_ <;> repeat' (first | exact trivial | exact rfl | apply And.intro)
    rintro ⟨i, hi0, hin, hall⟩
    unfold sName sMayEv
    generalize hg0 : evAt = g0
    generalize hg1 : mayEv = g1
    generalize hg2 : nameOk = g2
    generalize hg3 : Ev.fits = g3
    generalize hg4 : mayBl = g4
    generalize hg5 : evsOf = g5
    generalize hg6 : (List.length : List UInt8 → Nat) = g6
    generalize hL : lft Try.prog _ = L
    generalize hA : Arith.std = A
    cbv
    subst hA hg0 hg1 hg2 hg3 hg4 hg5 hg6 hL
    replace hin : i ≤ (n : Int) := hin
    replace hall : ∀ j : Nat, (j : Int) < i → mayEv (evAt (get j)) = true := hall
    refine Ife.mk (fun h => ?_) (fun h => ?_)
    · have hlt : i < (n : Int) := of_decide_eq_true (p := i < (n : Int)) h
      have hk : i.toNat < n := by omega
      have hf := hp.evs.fits i.toNat hk
      refine Need.mk (show 0 ≤ i ∧ i < (n : Int) from ⟨hi0, hlt⟩) fun _ => ?_
      refine Need.mk (show i.toNat < n from hk) fun _ => ?_
      refine Need.mk hf fun _ => ?_
      refine Ife.mk (fun h6 => ?_) (fun h6 => ?_)
      · have h6 : mayEv (evAt (get i.toNat)) = false := by simpa [Arith.std] using h6
        have : (evsOf n get).all mayEv = false := by
          cases hq : (evsOf n get).all mayEv
          · rfl
          · rw [all_evs.1 hq i.toNat hk] at h6
            cases h6
        simp [mayBl, this]
      · have h6 : mayEv (evAt (get i.toNat)) = true := by simpa [Arith.std] using h6
        refine Need.mk (show -9223372036854775808 ≤ i + 1 ∧ i + 1 ≤ 9223372036854775807 by omega) fun _ => ?_
        refine ⟨⟨i + 1, by omega, by omega, fun j hj => ?_⟩, by show n - (i + 1).toNat < n - i.toNat; omega, ?_⟩
        · by_cases hji : (j : Int) < i
          · exact hall j hji
          · obtain rfl : j = i.toNat := by omega
            exact h6
        · refine And.intro ?_ ?_ <;> repeat' (first | exact trivial | exact rfl | apply And.intro)
    · have hnlt : ¬ i < (n : Int) := of_decide_eq_false (p := i < (n : Int)) h
      have ha : (evsOf n get).all mayEv = true := all_evs.2 fun j hj => hall j (by omega)
      have hlen : (evsOf n get).length = n := by simp [evsOf]
      have hb1 : between ht 1 1099511627776 = true := decide_eq_true ⟨by omega, by omega⟩
      have hb2 : between tm 0 1099511627776 = true := decide_eq_true ⟨by omega, by omega⟩
      show decide ((n : Int) ≤ 1073741824) = _
      unfold mayBl
      simp only [h1, hb1, hb2, ha, hlen, Bool.true_and]
      exact decide_eq_decide.2 (by omega)

end Vx
end Go.Proofs.Ytpapfokdhmpmjaa
