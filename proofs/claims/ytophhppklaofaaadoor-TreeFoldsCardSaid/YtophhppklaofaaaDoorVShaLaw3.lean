/- The laws ShaTells, ShaLess. -/
import Derived.Test.YtophhppklaofaaaDoorVShaLaw2
import Derived.Test.YtophhppklaofaaaDoorVShaWalk
import Derived.Test.YtophhppklaofaaaDoorOpenHash
namespace Go.Proofs.YtophhppklaofaaaDoor
open Go.RowKit Sha
set_option linter.unusedVariables false
set_option linter.unusedSimpArgs false
namespace Vx
def tellsPre (gg sz n : Nat) (get : Nat → List CV) (ty one m : Nat) (gets : Nat → List CV) : Prop := KsAt gg sz n get ∧ ty = 9 ∧ one = 1 ∧ StrsAt m gets ∧ m ≤ 9223372036854775807
def sTells : SpecF
  | [.c (.row 1)], [.glob gg sz n get, .elems ty one m gets] => some (tellsPre gg sz n get ty one m gets, .c .tt, [.dead, .dead])
  | _, _ => none

set_option maxRecDepth 100000 in
set_option maxHeartbeats 8000000 in
theorem tellsP : Fn Tryd.prog 4 [0] [(9, 1)] sTells := by
  have hC : CtsOk Tryd.prog [(16, appFn [0] [] sFirst2), (18, appFn [] [(9, 1)] sLightT), (17, appFn [0] [(9, 1)] sSum), (20, appFn [] [(9, 1)] sJoined), (19, appPure sRSum), (21, appPure sText), (22, appPure sText), (23, appPure sHex), (24, appPure sRHex)] := CtsOk.cons (Fn.ct firstP) <| CtsOk.cons (Fn.ct lightTP) <| CtsOk.cons (Fn.ct sumP) <| CtsOk.cons (Fn.ct joinedP) <| CtsOk.cons (Pure.ct rsumP) <| CtsOk.cons (Pure.ct textP) <| CtsOk.cons (Pure.ct rtextP) <| CtsOk.cons (Pure.ct hexP) <| CtsOk.cons (Pure.ct rhexP) <| CtsOk.nil _
  refine Fn.of (E := tbC) [0] 0 [(6, [(0, true), (1, true), (2, true), (3, true), (4, true), (6, true), (5, false), (7, false), (8, true), (9, true), (10, true), (11, true), (13, true), (12, false), (14, false), (15, false), (16, true), (17, true), (18, true)])] tbC_ok hC (by kernel_rfl) Tryd.func4 rfl rfl rfl (by kernel_rfl) (by kernel_rfl) 2 5 1 ?_ ?_
  · intro args h pre r h' hs
    unfold sTells at hs
    split at hs
    · cases hs; exact ⟨rfl, rfl, Nat.le_of_ble_eq_true rfl⟩
    · cases hs
  · intro args h pre r h' hs hp
    unfold sTells at hs
    split at hs
    rotate_left
    · cases hs
    rename_i gg sz n get ty one m gets
    cases hs
    obtain ⟨hK, rfl, rfl, hst, hm⟩ := hp
    refine ⟨[.glob 0 1 64 (fun i => [.int .u32 (kOf i)]), .elems 9 1 m gets], ⟨hK.same.1, ⟨rfl, rfl, rfl, fun _ _ => rfl⟩, trivial⟩, ?_⟩
    clear hK
    unfold sSum sFirst2 sLightT sJoined sRSum sText sHex sRHex
    generalize hg0 : sumPre = g0
    generalize hg1 : KsAt = g1
    generalize hg2 : joinG = g2
    generalize hg3 : cutC = g3
    generalize hg4 : sumI = g4
    generalize hg5 : kOf = g5
    generalize hg6 : HashC = g6
    generalize hg7 : hexL = g7
    generalize hg8 : u8s = g8
    generalize hg9 : (List.length : List UInt8 → Nat) = g9
    generalize hg10 : lightT = g10
    generalize hg11 : lightPre = g11
    generalize hg12 : joinedPre = g12
    generalize hg13 : rsumPre = g13
    generalize hg14 : rhexPre = g14
    generalize hg15 : StrsAt = g15
    generalize hA : Arith.std = A
    set_option cbv.maxSteps 2000000 in cbv
    subst hA hg0 hg1 hg2 hg3 hg4 hg5 hg6 hg7 hg8 hg9 hg10 hg11 hg12 hg13 hg14 hg15
    refine Need.mk ksAt_self fun _ => ?_
    refine Need.mk ⟨rfl, rfl, hst, hm, by decide, by decide, by decide, by decide⟩ fun _ => ?_
    refine Ife.mk (fun _ => Need.mk ksAt_self fun _ => by exact ⟨[0, 1], ⟨rfl, by repeat' (first | exact trivial | exact rfl | apply And.intro), by decide, rfl, by repeat' (first | exact trivial | exact rfl | apply And.intro)⟩⟩) (fun hl => ?_)
    have hl : lightT m gets 8 600 = true := by
      cases h : lightT m gets 8 600 with
      | true => rfl
      | false => rw [h] at hl; cases hl
    obtain ⟨hl1, hl2, hl3⟩ := lightT_iff.1 hl
    refine Need.mk ⟨ksAt_self, rfl, rfl, hst, by omega, by omega⟩ fun _ => ?_
    refine Need.mk ⟨rfl, rfl, hst, by omega, by omega⟩ fun _ => ?_
    refine Need.mk (by show (joinG m gets).length ≤ 140737488350000; omega) fun _ => ?_
    generalize joinG m gets = J
    refine Ife.mk (fun _ => ?_) (fun hb => absurd ((eqH_self (sumI J)).symm.trans hb) (by decide))
    refine Need.mk (hashC_sum J) fun _ => Need.mk (hashC_sum J) fun _ => ?_
    refine Ife.mk (fun _ => ?_) (fun hb => absurd ((show decide (u8s (hashC (sumI J)) = u8s (hashC (sumI J))) = true from by simp).symm.trans hb) (by decide))
    refine Need.mk (hashC_sum J) fun _ => Need.mk (hashC_sum J) fun _ => Need.mk (by show (hashB (sumI J)).length ≤ 1000000; rw [hashB_len]; omega) fun _ => ?_
    exact ⟨[0, 1], ⟨rfl, (show decide (hexL (u8s (hashC (sumI J))) = hexL (u8s (hashC (sumI J)))) = true from by simp), by decide, rfl, by repeat' (first | exact trivial | exact rfl | apply And.intro)⟩⟩

def lessLPre (gg sz n : Nat) (get : Nat → List CV) (xs ys zs : List CV) : Prop := KsAt gg sz n get ∧ HashC xs ∧ HashC ys ∧ HashC zs
/-! ### The order -/
theorem cmp_less : ∀ l m : List UInt8, decide (Lib.compareBytes l m < 0) = Op.bytesLess l m
  | [], [] => rfl
  | [], _ :: _ => rfl
  | _ :: _, [] => rfl
  | a :: x, b :: y => by
    simp only [Lib.compareBytes, Op.bytesLess]
    have ih := cmp_less x y
    by_cases h1 : a < b
    · simp [h1]
    · by_cases h2 : b < a
      · have h3 : ¬ a = b := fun h => by subst h; exact UInt8.lt_irrefl _ h2
        simp [h1, h2, h3]
      · have h3 : a = b := UInt8.le_antisymm (UInt8.not_lt.1 h2) (UInt8.not_lt.1 h1)
        subst h3
        simp [UInt8.lt_irrefl, ih]
theorem less_irr (l : List UInt8) : Op.bytesLess l l = false := by
  induction l with
  | nil => rfl
  | cons a l ih => simp [Op.bytesLess, UInt8.lt_irrefl, ih]
theorem less_trans : ∀ l m k : List UInt8, Op.bytesLess l m = true → Op.bytesLess m k = true → Op.bytesLess l k = true
  | [], _, [], h1, h2 => by
    rename_i m
    cases m <;> simp [Op.bytesLess] at h1 h2
  | [], _, _ :: _, _, _ => rfl
  | _ :: _, [], _, h1, _ => by simp [Op.bytesLess] at h1
  | _ :: _, _ :: _, [], _, h2 => by simp [Op.bytesLess] at h2
  | a :: x, b :: y, c :: z, h1, h2 => by
    simp only [Op.bytesLess, Bool.or_eq_true, Bool.and_eq_true, decide_eq_true_iff, beq_iff_eq] at h1 h2 ⊢
    rcases h1 with h1 | ⟨rfl, h1⟩
    · rcases h2 with h2 | ⟨rfl, h2⟩
      · exact Or.inl (UInt8.lt_trans h1 h2)
      · exact Or.inl h1
    · rcases h2 with h2 | ⟨rfl, h2⟩
      · exact Or.inl h2
      · exact Or.inr ⟨rfl, less_trans x y z h1 h2⟩
theorem hashB_eq {f g : Nat → Int} (hf : ∀ i, 0 ≤ f i ∧ f i < 256) (hg : ∀ i, 0 ≤ g i ∧ g i < 256) (h : hashB f = hashB g) : eqH f g = true := by
  refine eqH_iff.2 fun i hi => ?_
  have := congrArg (fun l => l[i]?) h
  simp only [hashB, List.getElem?_map, List.getElem?_range hi, Option.map_some, Option.some.injEq] at this
  have h2 := congrArg UInt8.toNat this
  have a1 := hf i
  have a2 := hg i
  rw [UInt8.toNat_ofNat_of_lt' (by show _ < 256; omega), UInt8.toNat_ofNat_of_lt' (by show _ < 256; omega)] at h2
  omega
def sLessL : SpecF
  | [.agg xs, .agg ys, .agg zs], [.glob gg sz n get] => some (lessLPre gg sz n get xs ys zs, .c .tt, [.dead])
  | _, _ => none

set_option maxRecDepth 100000 in
set_option maxHeartbeats 8000000 in
theorem lessLP : Fn Tryd.prog 5 [0] [] sLessL := by
  have hC : CtsOk Tryd.prog [(16, appFn [0] [] sFirst2), (25, appPure sLess), (26, appPure sRLess)] := CtsOk.cons (Fn.ct firstP) <| CtsOk.cons (Pure.ct lessP) <| CtsOk.cons (Pure.ct rlessP) <| CtsOk.nil _
  refine Fn.of (E := tbC) [0] 0 [(3, [(0, true), (1, true), (3, true), (4, true), (2, false), (5, false), (6, true), (7, true), (8, true), (9, true), (10, false), (11, true), (12, true), (13, true), (14, true), (15, false), (16, true), (17, true), (18, true), (19, false), (20, true), (21, true), (22, true), (23, true), (24, true), (25, true), (26, true), (27, true), (28, true), (29, false), (30, true), (31, true), (32, true), (33, true), (34, true), (35, false), (36, true), (37, true), (38, true)])] tbC_ok hC (by kernel_rfl) Tryd.func5 rfl rfl rfl (by kernel_rfl) (by kernel_rfl) 1 5 1 ?_ ?_
  · intro args h pre r h' hs
    unfold sLessL at hs
    split at hs
    · cases hs; exact ⟨rfl, rfl, Nat.le_of_ble_eq_true rfl⟩
    · cases hs
  · intro args h pre r h' hs hp
    unfold sLessL at hs
    split at hs
    rotate_left
    · cases hs
    rename_i xs ys zs gg sz n get
    cases hs
    obtain ⟨hK, ⟨f, rfl, hf⟩, ⟨g, rfl, hg⟩, ⟨h, rfl, hh⟩⟩ := hp
    refine ⟨_, hK.same, ?_⟩
    clear hK
    unfold hashC
    unfold sFirst2 sLess sRLess
    generalize hg0 : KsAt = g0
    generalize hg1 : kOf = g1
    generalize hg2 : lessPre = g2
    generalize hg3 : lessB = g3
    generalize hg4 : lessR = g4
    generalize hA : Arith.std = A
    set_option cbv.maxSteps 4000000 in cbv
    subst hA hg0 hg1 hg2 hg3 hg4
    refine Need.mk ksAt_self fun _ => ?_
    have pp : ∀ {a b : Nat → Int}, (∀ i, 0 ≤ a i ∧ a i < 256) → (∀ i, 0 ≤ b i ∧ b i < 256) → lessPre (hashC a) (hashC b) := fun ha hb => ⟨⟨_, rfl, ha⟩, ⟨_, rfl, hb⟩⟩
    have rr : ∀ a b : Nat → Int, lessB (hashC a) (hashC b) = lessR (hashC a) (hashC b) := fun a b => cmp_less _ _
    have irr : lessR (hashC f) (hashC f) = false := less_irr _
    have tr1 : lessR (hashC f) (hashC g) = true → lessR (hashC g) (hashC f) = true → False := fun h1 h2 => by
      have h3 := less_trans _ _ _ h1 h2
      have h4 : Op.bytesLess (u8s (hashC f)) (u8s (hashC f)) = false := less_irr _
      rw [h4] at h3
      cases h3
    have tr2 : lessR (hashC f) (hashC g) = true → lessR (hashC g) (hashC h) = true → lessR (hashC f) (hashC h) = true := fun h1 h2 => less_trans _ _ _ h1 h2
    have tot : eqH f g = false → lessR (hashC f) (hashC g) = false → lessR (hashC g) (hashC f) = true := fun h1 h2 => by
      have h3 := bytesLess_total (hashB f) (hashB g)
      have h4 : Op.bytesLess (hashB f) (hashB g) = false := h2
      rw [h4] at h3
      have h5 : (hashB f == hashB g) = false := by
        rw [Bool.eq_false_iff]
        intro h6
        rw [hashB_eq hf hg (by simpa using h6)] at h1
        cases h1
      rw [h5] at h3
      exact h3
    have eR1 := rr f g
    have eR2 := rr f f
    have eR3 := rr g f
    have eR4 := rr g h
    have eR5 := rr f h
    have k1 : lessB (hashC f) (hashC g) = true → lessB (hashC g) (hashC f) = true → False := fun h1 h2 => tr1 (eR1.symm.trans h1) (eR3.symm.trans h2)
    have k2 : (!eqH f g) = true → (!lessB (hashC f) (hashC g)) = true → (!lessB (hashC g) (hashC f)) = true → False := fun h1 h2 h3 => by
      have e1 : eqH f g = false := by simpa using h1
      have e2 : lessB (hashC f) (hashC g) = false := by simpa using h2
      have e3 : lessB (hashC g) (hashC f) = false := by simpa using h3
      have e4 := tot e1 (eR1.symm.trans e2)
      rw [← eR3, e3] at e4
      cases e4
    have k3 : lessB (hashC f) (hashC g) = true → (!lessB (hashC f) (hashC g)) = true → False := fun h1 h2 => by rw [h1] at h2; cases h2
    have k5 : lessB (hashC g) (hashC f) = false → (!lessB (hashC g) (hashC f)) = false → False := fun h1 h2 => by rw [h1] at h2; cases h2
    have k6 : lessB (hashC f) (hashC g) = false → (!lessB (hashC f) (hashC g)) = false → False := fun h1 h2 => by rw [h1] at h2; cases h2
    have k4 : (!lessB (hashC f) (hashC g)) = false → (!lessB (hashC g) (hashC h)) = false → lessB (hashC f) (hashC h) = true := fun h1 h2 => by
      have e1 : lessB (hashC f) (hashC g) = true := by simpa using h1
      have e2 : lessB (hashC g) (hashC h) = true := by simpa using h2
      rw [eR5]
      exact tr2 (eR1.symm.trans e1) (eR4.symm.trans e2)
    repeat' (first
      | refine Need.mk (pp hf hg) fun _ => ?_
      | refine Need.mk (pp hf hf) fun _ => ?_
      | refine Need.mk (pp hg hf) fun _ => ?_
      | refine Need.mk (pp hg hh) fun _ => ?_
      | refine Need.mk (pp hf hh) fun _ => ?_
      | refine Ife.mk (fun hb => absurd (show (!(lessB (hashC f) (hashC g) == lessR (hashC f) (hashC g))) = true from hb) (by rw [eR1]; simp)) (fun _ => ?_)
      | refine Ife.mk (fun hb => absurd (show lessB (hashC f) (hashC f) = true from hb) (by rw [eR2, irr]; decide)) (fun _ => ?_)
      | refine Ife.mk (fun hb => ?_) (fun hb => ?_))
    all_goals refine ⟨[0], ⟨rfl, ?_, by decide, rfl, by repeat' (first | exact trivial | exact rfl | apply And.intro)⟩⟩
    all_goals first
      | (show _ = true; exact k4 (by assumption) (by assumption))
      | exact (k1 (by assumption) (by assumption)).elim
      | exact (k2 (by assumption) (by assumption) (by assumption)).elim
      | exact (k3 (by assumption) (by assumption)).elim
      | exact (k5 (by assumption) (by assumption)).elim
      | exact (k6 (by assumption) (by assumption)).elim
      | (show True; trivial)

end Vx
end Go.Proofs.YtophhppklaofaaaDoor
