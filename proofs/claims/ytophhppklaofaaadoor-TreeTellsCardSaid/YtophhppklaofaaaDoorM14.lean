/- Sums that come in, opened. -/
import Derived.Test.YtophhppklaofaaaDoorOpenSl
import Derived.Test.YtophhppklaofaaaDoorM11
import Derived.Test.YtophhppklaofaaaDoorVShaWalk
section
namespace Go.Proofs.YtophhppklaofaaaDoor
open Go.ChangeShapes Go.WideShapes Go.ChangeAt Go.RowKit
set_option linter.unusedVariables false
set_option linter.unusedSimpArgs false
section
variable {H : Type} {enc : TypeId × Value → H} {w : World} {base : Nat}
theorem cellsG_u8 : Tryd.prog.cellsOf 5 = 1 := by kernel_rfl
theorem cellsG_Hash : Tryd.prog.cellsOf 24 = 32 := by kernel_rfl
/-- A sum's bytes, as values. -/
def hashV (f : Nat → Int) : List Value := (List.range 32).map fun i => .int .u8 (f i)
theorem hashC_is (f : Nat → Int) (ρ : List Vx.Pl) : Vx.IsL ρ (Vx.hashC f) (hashV f) := rfl
set_option maxRecDepth 100000 in
theorem trod_Hash {spare : Nat → Bool} {held : Bool} {b0 fuel : Nat} {l : List Value} {x : DataW H × List MemPlace} (hf : DataW.trod enc Tryd.prog w b0 spare held fuel 24 l = some x) :
    l.length = 32 ∧ ∃ f : Nat → Int, l = hashV f ∧ ∀ i, 0 ≤ f i ∧ f i < 256 := by
  obtain ⟨xs, m, _, _, hl, hlen, hff⟩ := DataW.trod_array Tryd.underlying24 hf
  rw [cellsG_Hash] at hl
  have each : ∀ i (h : i < 32), ∃ n : Int, l[i]'(by omega) = .int .u8 n ∧ 0 ≤ n ∧ n < 256 := fun i h => by
    have f := hff i h
    rw [cellsG_u8] at f
    have e := List.getElem?_eq_getElem (l := xs) (i := i) (by omega)
    rw [e] at f
    obtain ⟨n, e1, _, hw⟩ := DataW.trod_int Tryd.underlying5 f
    have hb : 0 ≤ n ∧ n ≤ 255 := bounds_u8 hw
    have e2 : (List.drop (i * 1) l).take 1 = [l[i]'(by omega)] := by
      rw [Nat.mul_one, List.drop_eq_getElem_cons (by omega)]
      rfl
    rw [e2] at e1
    exact ⟨n, by simpa using e1, hb.1, by omega⟩
  refine ⟨hl, fun i => if h : i < 32 then Classical.choose (each i h) else 0, ?_, fun i => ?_⟩
  · apply List.ext_getElem
    · simp [hashV, hl]
    · intro i h1 h2
      simp only [hashV, List.length_map, List.length_range] at h2
      simp only [hashV, List.getElem_map, List.getElem_range]
      rw [dif_pos h2]
      exact (Classical.choose_spec (each i h2)).1
  · dsimp only
    split
    · rename_i h
      exact (Classical.choose_spec (each i h)).2
    · omega
set_option maxRecDepth 100000 in
theorem open_Hash {spare : Nat → Bool} {held : Bool} {v : Value} {d : DataW H} {p : List MemPlace} (hv : Value.okWide Tryd.prog w .any base 24 v) (h : DataW.Trod enc Tryd.prog w 0 spare held 24 v d p) :
    ∃ f : Nat → Int, v = .agg (hashV f).toArray ∧ ∀ i, 0 ≤ f i ∧ f i < 256 := by
  simp only [Value.okWide, Tryd.underlying24] at hv
  obtain ⟨cs, rfl, hz⟩ := hv
  obtain ⟨fuel, hf⟩ := h
  obtain ⟨_, f, e, hr⟩ := trod_Hash hf
  refine ⟨f, ?_, hr⟩
  have : cs = (hashV f).toArray := by
    have e' : cs.toList = hashV f := e
    rw [← e']
  rw [this]
end
end Go.Proofs.YtophhppklaofaaaDoor
end

section
/- The laws ShaTells, ShaLess. -/
namespace Go.Proofs.YtophhppklaofaaaDoor
open Go.RowKit Sha
set_option linter.unusedVariables false
set_option linter.unusedSimpArgs false
namespace Vx
def tellsPre (gg sz n : Nat) (get : Nat → List CV) (ty one m : Nat) (gets : Nat → List CV) : Prop := KsAt gg sz n get ∧ ty = 9 ∧ one = 1 ∧ StrsAt m gets ∧ m ≤ 9223372036854775807
def sTells : SpecF
  | [.c (.row 1)], [.glob gg sz n get, .elems ty one m gets] => some (tellsPre gg sz n get ty one m gets, .c .tt, [.dead, .dead])
  | _, _ => none

set_option maxRecDepth 100000 in
set_option maxHeartbeats 8000000 in
theorem tellsP : Fn Tryd.prog 4 [0] [(9, 1)] sTells := by
  have hC : CtsOk Tryd.prog [(16, appFn [0] [] sFirst2), (18, appFn [] [(9, 1)] sLightT), (17, appFn [0] [(9, 1)] sSum), (20, appFn [] [(9, 1)] sJoined), (19, appPure sRSum), (21, appPure sText), (22, appPure sText), (23, appPure sHex), (24, appPure sRHex)] := CtsOk.cons (Fn.ct firstP) <| CtsOk.cons (Fn.ct lightTP) <| CtsOk.cons (Fn.ct sumP) <| CtsOk.cons (Fn.ct joinedP) <| CtsOk.cons (Pure.ct rsumP) <| CtsOk.cons (Pure.ct textP) <| CtsOk.cons (Pure.ct rtextP) <| CtsOk.cons (Pure.ct hexP) <| CtsOk.cons (Pure.ct rhexP) <| CtsOk.nil _
  refine Fn.of (E := tbC) [0] 0 [(6, [(0, true), (1, true), (2, true), (3, true), (4, true), (6, true), (5, false), (7, false), (8, true), (9, true), (10, true), (11, true), (13, true), (12, false), (14, false), (15, false), (16, true), (17, true), (18, true)])] tbC_ok hC (by kernel_rfl) Tryd.func4 rfl rfl rfl (by kernel_rfl) (by kernel_rfl) 2 5 1 ?_ ?_
  · intro args h pre r h' hs
    unfold sTells at hs
    split at hs
    · cases hs; exact ⟨rfl, rfl, Nat.le_of_ble_eq_true rfl⟩
    · cases hs
  · intro args h pre r h' hs hp
    unfold sTells at hs
    split at hs
    rotate_left
    · cases hs
    rename_i gg sz n get ty one m gets
    cases hs
    obtain ⟨hK, rfl, rfl, hst, hm⟩ := hp
    refine ⟨[.glob 0 1 64 (fun i => [.int .u32 (kOf i)]), .elems 9 1 m gets], ⟨hK.same.1, ⟨rfl, rfl, rfl, fun _ _ => rfl⟩, trivial⟩, ?_⟩
    clear hK
    unfold sSum sFirst2 sLightT sJoined sRSum sText sHex sRHex
    generalize hg0 : sumPre = g0
    generalize hg1 : KsAt = g1
    generalize hg2 : joinG = g2
    generalize hg3 : cutC = g3
    generalize hg4 : sumI = g4
    generalize hg5 : kOf = g5
    generalize hg6 : HashC = g6
    generalize hg7 : hexL = g7
    generalize hg8 : u8s = g8
    generalize hg9 : (List.length : List UInt8 → Nat) = g9
    generalize hg10 : lightT = g10
    generalize hg11 : lightPre = g11
    generalize hg12 : joinedPre = g12
    generalize hg13 : rsumPre = g13
    generalize hg14 : rhexPre = g14
    generalize hg15 : StrsAt = g15
    generalize hA : Arith.std = A
    set_option cbv.maxSteps 2000000 in cbv
    subst hA hg0 hg1 hg2 hg3 hg4 hg5 hg6 hg7 hg8 hg9 hg10 hg11 hg12 hg13 hg14 hg15
    refine Need.mk ksAt_self fun _ => ?_
    refine Need.mk ⟨rfl, rfl, hst, hm, by decide, by decide, by decide, by decide⟩ fun _ => ?_
    refine Ife.mk (fun _ => Need.mk ksAt_self fun _ => by exact ⟨[0, 1], ⟨rfl, by repeat' (first | exact trivial | exact rfl | apply And.intro), by decide, rfl, by repeat' (first | exact trivial | exact rfl | apply And.intro)⟩⟩) (fun hl => ?_)
    have hl : lightT m gets 8 600 = true := by
      cases h : lightT m gets 8 600 with
      | true => rfl
      | false => rw [h] at hl; cases hl
    obtain ⟨hl1, hl2, hl3⟩ := lightT_iff.1 hl
    refine Need.mk ⟨ksAt_self, rfl, rfl, hst, by omega, by omega⟩ fun _ => ?_
    refine Need.mk ⟨rfl, rfl, hst, by omega, by omega⟩ fun _ => ?_
    refine Need.mk (by show (joinG m gets).length ≤ 140737488350000; omega) fun _ => ?_
    generalize joinG m gets = J
    refine Ife.mk (fun _ => ?_) (fun hb => absurd ((eqH_self (sumI J)).symm.trans hb) (by decide))
    refine Need.mk (hashC_sum J) fun _ => Need.mk (hashC_sum J) fun _ => ?_
    refine Ife.mk (fun _ => ?_) (fun hb => absurd ((show decide (u8s (hashC (sumI J)) = u8s (hashC (sumI J))) = true from by simp).symm.trans hb) (by decide))
    refine Need.mk (hashC_sum J) fun _ => Need.mk (hashC_sum J) fun _ => Need.mk (by show (hashB (sumI J)).length ≤ 1000000; rw [hashB_len]; omega) fun _ => ?_
    exact ⟨[0, 1], ⟨rfl, (show decide (hexL (u8s (hashC (sumI J))) = hexL (u8s (hashC (sumI J)))) = true from by simp), by decide, rfl, by repeat' (first | exact trivial | exact rfl | apply And.intro)⟩⟩

def lessLPre (gg sz n : Nat) (get : Nat → List CV) (xs ys zs : List CV) : Prop := KsAt gg sz n get ∧ HashC xs ∧ HashC ys ∧ HashC zs
/-! ### The order -/
theorem cmp_less : ∀ l m : List UInt8, decide (Lib.compareBytes l m < 0) = Op.bytesLess l m
  | [], [] => rfl
  | [], _ :: _ => rfl
  | _ :: _, [] => rfl
  | a :: x, b :: y => by
    simp only [Lib.compareBytes, Op.bytesLess]
    have ih := cmp_less x y
    by_cases h1 : a < b
    · simp [h1]
    · by_cases h2 : b < a
      · have h3 : ¬ a = b := fun h => by subst h; exact UInt8.lt_irrefl _ h2
        simp [h1, h2, h3]
      · have h3 : a = b := UInt8.le_antisymm (UInt8.not_lt.1 h2) (UInt8.not_lt.1 h1)
        subst h3
        simp [UInt8.lt_irrefl, ih]
theorem less_irr (l : List UInt8) : Op.bytesLess l l = false := by
  induction l with
  | nil => rfl
  | cons a l ih => simp [Op.bytesLess, UInt8.lt_irrefl, ih]
theorem less_trans : ∀ l m k : List UInt8, Op.bytesLess l m = true → Op.bytesLess m k = true → Op.bytesLess l k = true
  | [], _, [], h1, h2 => by
    rename_i m
    cases m <;> simp [Op.bytesLess] at h1 h2
  | [], _, _ :: _, _, _ => rfl
  | _ :: _, [], _, h1, _ => by simp [Op.bytesLess] at h1
  | _ :: _, _ :: _, [], _, h2 => by simp [Op.bytesLess] at h2
  | a :: x, b :: y, c :: z, h1, h2 => by
    simp only [Op.bytesLess, Bool.or_eq_true, Bool.and_eq_true, decide_eq_true_iff, beq_iff_eq] at h1 h2 ⊢
    rcases h1 with h1 | ⟨rfl, h1⟩
    · rcases h2 with h2 | ⟨rfl, h2⟩
      · exact Or.inl (UInt8.lt_trans h1 h2)
      · exact Or.inl h1
    · rcases h2 with h2 | ⟨rfl, h2⟩
      · exact Or.inl h2
      · exact Or.inr ⟨rfl, less_trans x y z h1 h2⟩
theorem hashB_eq {f g : Nat → Int} (hf : ∀ i, 0 ≤ f i ∧ f i < 256) (hg : ∀ i, 0 ≤ g i ∧ g i < 256) (h : hashB f = hashB g) : eqH f g = true := by
  refine eqH_iff.2 fun i hi => ?_
  have := congrArg (fun l => l[i]?) h
  simp only [hashB, List.getElem?_map, List.getElem?_range hi, Option.map_some, Option.some.injEq] at this
  have h2 := congrArg UInt8.toNat this
  have a1 := hf i
  have a2 := hg i
  rw [UInt8.toNat_ofNat_of_lt' (by show _ < 256; omega), UInt8.toNat_ofNat_of_lt' (by show _ < 256; omega)] at h2
  omega
def sLessL : SpecF
  | [.agg xs, .agg ys, .agg zs], [.glob gg sz n get] => some (lessLPre gg sz n get xs ys zs, .c .tt, [.dead])
  | _, _ => none

set_option maxRecDepth 100000 in
set_option maxHeartbeats 8000000 in
theorem lessLP : Fn Tryd.prog 5 [0] [] sLessL := by
  have hC : CtsOk Tryd.prog [(16, appFn [0] [] sFirst2), (25, appPure sLess), (26, appPure sRLess)] := CtsOk.cons (Fn.ct firstP) <| CtsOk.cons (Pure.ct lessP) <| CtsOk.cons (Pure.ct rlessP) <| CtsOk.nil _
  refine Fn.of (E := tbC) [0] 0 [(3, [(0, true), (1, true), (3, true), (4, true), (2, false), (5, false), (6, true), (7, true), (8, true), (9, true), (10, false), (11, true), (12, true), (13, true), (14, true), (15, false), (16, true), (17, true), (18, true), (19, false), (20, true), (21, true), (22, true), (23, true), (24, true), (25, true), (26, true), (27, true), (28, true), (29, false), (30, true), (31, true), (32, true), (33, true), (34, true), (35, false), (36, true), (37, true), (38, true)])] tbC_ok hC (by kernel_rfl) Tryd.func5 rfl rfl rfl (by kernel_rfl) (by kernel_rfl) 1 5 1 ?_ ?_
  · intro args h pre r h' hs
    unfold sLessL at hs
    split at hs
    · cases hs; exact ⟨rfl, rfl, Nat.le_of_ble_eq_true rfl⟩
    · cases hs
  · intro args h pre r h' hs hp
    unfold sLessL at hs
    split at hs
    rotate_left
    · cases hs
    rename_i xs ys zs gg sz n get
    cases hs
    obtain ⟨hK, ⟨f, rfl, hf⟩, ⟨g, rfl, hg⟩, ⟨h, rfl, hh⟩⟩ := hp
    refine ⟨_, hK.same, ?_⟩
    clear hK
    unfold hashC
    unfold sFirst2 sLess sRLess
    generalize hg0 : KsAt = g0
    generalize hg1 : kOf = g1
    generalize hg2 : lessPre = g2
    generalize hg3 : lessB = g3
    generalize hg4 : lessR = g4
    generalize hA : Arith.std = A
    set_option cbv.maxSteps 4000000 in cbv
    subst hA hg0 hg1 hg2 hg3 hg4
    refine Need.mk ksAt_self fun _ => ?_
    have pp : ∀ {a b : Nat → Int}, (∀ i, 0 ≤ a i ∧ a i < 256) → (∀ i, 0 ≤ b i ∧ b i < 256) → lessPre (hashC a) (hashC b) := fun ha hb => ⟨⟨_, rfl, ha⟩, ⟨_, rfl, hb⟩⟩
    have rr : ∀ a b : Nat → Int, lessB (hashC a) (hashC b) = lessR (hashC a) (hashC b) := fun a b => cmp_less _ _
    have irr : lessR (hashC f) (hashC f) = false := less_irr _
    have tr1 : lessR (hashC f) (hashC g) = true → lessR (hashC g) (hashC f) = true → False := fun h1 h2 => by
      have h3 := less_trans _ _ _ h1 h2
      have h4 : Op.bytesLess (u8s (hashC f)) (u8s (hashC f)) = false := less_irr _
      rw [h4] at h3
      cases h3
    have tr2 : lessR (hashC f) (hashC g) = true → lessR (hashC g) (hashC h) = true → lessR (hashC f) (hashC h) = true := fun h1 h2 => less_trans _ _ _ h1 h2
    have tot : eqH f g = false → lessR (hashC f) (hashC g) = false → lessR (hashC g) (hashC f) = true := fun h1 h2 => by
      have h3 := bytesLess_total (hashB f) (hashB g)
      have h4 : Op.bytesLess (hashB f) (hashB g) = false := h2
      rw [h4] at h3
      have h5 : (hashB f == hashB g) = false := by
        rw [Bool.eq_false_iff]
        intro h6
        rw [hashB_eq hf hg (by simpa using h6)] at h1
        cases h1
      rw [h5] at h3
      exact h3
    have eR1 := rr f g
    have eR2 := rr f f
    have eR3 := rr g f
    have eR4 := rr g h
    have eR5 := rr f h
    have k1 : lessB (hashC f) (hashC g) = true → lessB (hashC g) (hashC f) = true → False := fun h1 h2 => tr1 (eR1.symm.trans h1) (eR3.symm.trans h2)
    have k2 : (!eqH f g) = true → (!lessB (hashC f) (hashC g)) = true → (!lessB (hashC g) (hashC f)) = true → False := fun h1 h2 h3 => by
      have e1 : eqH f g = false := by simpa using h1
      have e2 : lessB (hashC f) (hashC g) = false := by simpa using h2
      have e3 : lessB (hashC g) (hashC f) = false := by simpa using h3
      have e4 := tot e1 (eR1.symm.trans e2)
      rw [← eR3, e3] at e4
      cases e4
    have k3 : lessB (hashC f) (hashC g) = true → (!lessB (hashC f) (hashC g)) = true → False := fun h1 h2 => by rw [h1] at h2; cases h2
    have k5 : lessB (hashC g) (hashC f) = false → (!lessB (hashC g) (hashC f)) = false → False := fun h1 h2 => by rw [h1] at h2; cases h2
    have k6 : lessB (hashC f) (hashC g) = false → (!lessB (hashC f) (hashC g)) = false → False := fun h1 h2 => by rw [h1] at h2; cases h2
    have k4 : (!lessB (hashC f) (hashC g)) = false → (!lessB (hashC g) (hashC h)) = false → lessB (hashC f) (hashC h) = true := fun h1 h2 => by
      have e1 : lessB (hashC f) (hashC g) = true := by simpa using h1
      have e2 : lessB (hashC g) (hashC h) = true := by simpa using h2
      rw [eR5]
      exact tr2 (eR1.symm.trans e1) (eR4.symm.trans e2)
    repeat' (first
      | refine Need.mk (pp hf hg) fun _ => ?_
      | refine Need.mk (pp hf hf) fun _ => ?_
      | refine Need.mk (pp hg hf) fun _ => ?_
      | refine Need.mk (pp hg hh) fun _ => ?_
      | refine Need.mk (pp hf hh) fun _ => ?_
      | refine Ife.mk (fun hb => absurd (show (!(lessB (hashC f) (hashC g) == lessR (hashC f) (hashC g))) = true from hb) (by rw [eR1]; simp)) (fun _ => ?_)
      | refine Ife.mk (fun hb => absurd (show lessB (hashC f) (hashC f) = true from hb) (by rw [eR2, irr]; decide)) (fun _ => ?_)
      | refine Ife.mk (fun hb => ?_) (fun hb => ?_))
    all_goals refine ⟨[0], ⟨rfl, ?_, by decide, rfl, by repeat' (first | exact trivial | exact rfl | apply And.intro)⟩⟩
    all_goals first
      | (show _ = true; exact k4 (by assumption) (by assumption))
      | exact (k1 (by assumption) (by assumption)).elim
      | exact (k2 (by assumption) (by assumption) (by assumption)).elim
      | exact (k3 (by assumption) (by assumption)).elim
      | exact (k5 (by assumption) (by assumption)).elim
      | exact (k6 (by assumption) (by assumption)).elim
      | (show True; trivial)

end Vx
end Go.Proofs.YtophhppklaofaaaDoor
end

section
/- A slice that comes in is put beside what is held already. -/
namespace Go.Proofs.YtophhppklaofaaaDoor.Vx
open Go.RowKit
set_option linter.unusedVariables false
set_option linter.unusedSimpArgs false
theorem Rel.addView {w : World} {ρ : List Pl} {h : List Ent} (r : Rel w [] ρ h w) {sz : Nat} {v : View} {q0 : Pl} (ty : TypeId) (g : Good w sz v q0) : Rel w [] (ρ ++ [q0]) (h ++ [viewE ty sz v]) w := by
  have hpl : ∀ j q, (ρ ++ [q0])[j]? = some q → (j < h.length → ρ[j]? = some q) ∧ (j = h.length → q = q0) := fun j q hq => by
    rcases getElem?_snoc hq with ⟨h1, h2⟩ | ⟨h1, h2⟩
    · exact ⟨fun _ => h2, fun e => by rw [r.len] at h1; omega⟩
    · exact ⟨fun h3 => by rw [r.len] at h1; omega, fun _ => h2⟩
  have hfp : ∀ j b, fp (ρ ++ [q0]) (h ++ [viewE ty sz v]) j = some b → fp ρ h j = some b := fun j b hf => by
    obtain ⟨x, q, hx, hq, hb⟩ := fp_some hf
    rcases getElem?_snoc hx with ⟨h1, h2⟩ | ⟨h1, rfl⟩
    · rw [fp_mk h2 ((hpl j q hq).1 h1)]; exact hb
    · cases hb
  refine ⟨by simp [r.len], fun j x q hx hq => ?_, fun j b hf => r.own j b (hfp j b hf), fun i j b hi hj => r.dis i j b (hfp i b hi) (hfp j b hj), r.kept, fun j x q b hx hq h1 h2 => ?_, r.os, r.tape, r.output, r.size⟩
  · rcases getElem?_snoc hx with ⟨h1, h2⟩ | ⟨h1, rfl⟩
    · exact Ent.ok_app (r.ok j x q h2 ((hpl j q hq).1 h1)) _
    · rw [(hpl j q hq).2 h1]
      exact ⟨g.sl, g.get⟩
  · rcases getElem?_snoc hx with ⟨g1, g2⟩ | ⟨g1, rfl⟩
    · exact r.ro j x q b g2 ((hpl j q hq).1 g1) h1 h2
    · rw [(hpl j q hq).2 g1] at h2
      simp only [viewE, Ent.dep] at h2
      split at h2
      · rename_i hn
        cases h2
        exact ⟨g.lt hn, by simp⟩
      · cases h2
end Go.Proofs.YtophhppklaofaaaDoor.Vx
end

section
/- The laws ShaTells, ShaLess, from a world in which the sums' words stand. -/
namespace Go.Proofs.YtophhppklaofaaaDoor
open Go.RowKit
set_option linter.unusedVariables false
set_option linter.unusedSimpArgs false
theorem shaTellsWalk (w : World) (hk : ∀ i, i < 64 → w.cell? ⟨0, i, none⟩ = some (.int .u32 (Sha.kOf i))) (a : Option Addr) (cap : Nat) (ls : List (List UInt8)) (hs : SlIn w a 1 cap (ls.map fun l => [.string ⟨l.toArray⟩])) :
    Calls Tryd.prog 4 #[.slice a ls.length cap] w fun e w' => e = .returned (.bool true) ∧ Below w.heap.size w w' := by
  obtain ⟨p, hp, g⟩ := hs.good (get := fun i => [.str (ls.getD i [])]) (fun i hi => by
    have hi' : i < ls.length := by simpa using hi
    simp [Vx.IsL, Vx.CV.den, hi', Vx.one])
  have hm := hs.max
  simp only [List.length_map] at hp g hm
  rw [← hp]
  refine Calls.mono (Vx.tellsP.run [.c (.row 1)] [.glob 0 1 64 (fun i => [.int .u32 (Sha.kOf i)]), .elems 9 1 ls.length (fun i => [.str (ls.getD i [])])] _ _ _ rfl
    ⟨Vx.ksAt_self, rfl, rfl, fun i hi => ⟨_, rfl⟩, Nat.le_trans hm (by decide)⟩ [⟨0, undef, 0⟩, p] w _ (Vx.Rel.addView (Vx.relGlob hk) 9 g) ⟨_, _, rfl, (by obtain ⟨a', cap', e, _⟩ := g.sl; simp [Vx.SV.is, Vx.CV.den, e, Vx.one] : Vx.SV.is [⟨0, undef, 0⟩, p] (.c (.row 1)) p.v), rfl⟩) fun e W' he => ?_
  obtain ⟨u, ρ', rfl, hu, hr⟩ := he
  obtain rfl : .bool true = u := Option.some.inj hu
  exact ⟨rfl, Vx.Rel.toBelow hr⟩
theorem shaLessWalk (w : World) (hk : ∀ i, i < 64 → w.cell? ⟨0, i, none⟩ = some (.int .u32 (Sha.kOf i))) (f : Nat → Int) (hf : ∀ i, 0 ≤ f i ∧ f i < 256) (g : Nat → Int) (hg : ∀ i, 0 ≤ g i ∧ g i < 256) (h : Nat → Int) (hh : ∀ i, 0 ≤ h i ∧ h i < 256) :
    Calls Tryd.prog 5 #[.agg (hashV f).toArray, .agg (hashV g).toArray, .agg (hashV h).toArray] w fun e w' => e = .returned (.bool true) ∧ Below w.heap.size w w' := by
  refine Calls.mono (Vx.lessLP.run [.agg (Vx.hashC f), .agg (Vx.hashC g), .agg (Vx.hashC h)] [.glob 0 1 64 (fun i => [.int .u32 (Sha.kOf i)])] _ _ _ rfl
    ⟨Vx.ksAt_self, ⟨_, rfl, hf⟩, ⟨_, rfl, hg⟩, ⟨_, rfl, hh⟩⟩ [⟨0, undef, 0⟩] w _ (Vx.relGlob hk) ⟨_, _, rfl, ⟨_, hashC_is f _, rfl⟩, _, _, rfl, ⟨_, hashC_is g _, rfl⟩, _, _, rfl, ⟨_, hashC_is h _, rfl⟩, rfl⟩) fun e W' he => ?_
  obtain ⟨u, ρ', rfl, hu, hr⟩ := he
  obtain rfl : .bool true = u := Option.some.inj hu
  exact ⟨rfl, Vx.Rel.toBelow hr⟩
end Go.Proofs.YtophhppklaofaaaDoor
end

section
/- The law ShaHex, by the walker. -/
namespace Go.Proofs.YtophhppklaofaaaDoor
open Go.RowKit Sha
set_option linter.unusedVariables false
set_option linter.unusedSimpArgs false
namespace Vx
theorem hexL_getD (l : List UInt8) (j : Nat) (hj : j < l.length) : (hexL l).getD (2 * j) 0 = dig ((l.getD j 0).toNat / 16) ∧ (hexL l).getD (2 * j + 1) 0 = dig ((l.getD j 0).toNat % 16) := by
  induction l generalizing j with
  | nil => simp at hj
  | cons b l ih =>
    cases j with
    | zero => exact ⟨rfl, rfl⟩
    | succ j =>
      have := ih j (by simpa using hj)
      show ((hexB b ++ hexL l).getD (2 * (j + 1)) 0 = _) ∧ ((hexB b ++ hexL l).getD (2 * (j + 1) + 1) 0 = _)
      rw [show 2 * (j + 1) = (2 * j) + 1 + 1 by omega]
      exact this
theorem ix_dig (n : Nat) (h : n < 16) : ixB digs ((dig n).toNat : Int) = (n : Int) := by
  have key : ∀ j : Fin 16, ixB digs ((dig j.1).toNat : Int) = (j.1 : Int) := by decide +kernel
  exact key ⟨n, h⟩
theorem dig_of_ix (a : UInt8) (h : 0 ≤ ixB digs (a.toNat : Int)) : dig (ixB digs (a.toNat : Int)).toNat = a := by
  have key : ∀ j : Fin 256, 0 ≤ ixB digs (j.1 : Int) → dig (ixB digs (j.1 : Int)).toNat = UInt8.ofNat j.1 := by decide +kernel
  have := key ⟨a.toNat, a.toNat_lt⟩ h
  simpa using this
theorem hv_hex (l : List UInt8) (j : Nat) (hj : j < l.length) : hv (hexL l) (2 * j) = ((l.getD j 0).toNat / 16 : Nat) ∧ hv (hexL l) (2 * j + 1) = ((l.getD j 0).toNat % 16 : Nat) := by
  obtain ⟨h1, h2⟩ := hexL_getD l j hj
  have hb := (l.getD j 0).toNat_lt
  unfold hv
  rw [h1, h2]
  exact ⟨ix_dig _ (by omega), ix_dig _ (by omega)⟩
theorem unE_hex (l : List UInt8) (hl : l.length = 32) : unE (hexL l) = 0 := by
  have h := hexL_len l
  unfold unE
  rw [if_neg (by omega), if_neg (by omega), if_pos]
  refine hexOk_iff.2 fun k hk => ?_
  obtain ⟨h1, h2⟩ := hv_hex l (k / 2) (by omega)
  rcases Nat.mod_two_eq_zero_or_one k with h3 | h3
  · rw [show k = 2 * (k / 2) by omega, h1]; omega
  · rw [show k = 2 * (k / 2) + 1 by omega, h2]; omega
theorem hashB_getD (f : Nat → Int) (j : Nat) (hj : j < 32) : (hashB f).getD j 0 = UInt8.ofNat (f j).toNat := by
  unfold hashB
  rw [List.getD_eq_getElem?_getD, List.getElem?_map, List.getElem?_range hj]
  rfl
theorem unF_hex (f : Nat → Int) (hf : ∀ i, 0 ≤ f i ∧ f i < 256) (j : Nat) (hj : j < 32) : unF (hexL (hashB f)) j = f j := by
  unfold unF
  rw [if_pos (unE_hex _ (hashB_len f))]
  unfold pref
  rw [if_pos (by omega)]
  obtain ⟨h1, h2⟩ := hv_hex (hashB f) j (by rw [hashB_len]; exact hj)
  have := hf j
  rw [h1, h2, hashB_getD f j hj, UInt8.toNat_ofNat_of_lt' (by show _ < 256; omega)]
  omega
theorem unF_range (s : List UInt8) (j : Nat) : 0 ≤ unF s j ∧ unF s j < 256 := by
  unfold unF
  by_cases h : unE s = 0
  · rw [if_pos h]
    unfold unE at h
    split at h
    · cases h
    · split at h
      · cases h
      · split at h
        rotate_left
        · cases h
        rename_i h1 h2 h3
        have hk := hexOk_iff.1 h3
        have a1 := hv_range s (2 * j)
        have a2 := hv_range s (2 * j + 1)
        unfold pref
        split
        · have b1 := hk (2 * j) (by omega)
          have b2 := hk (2 * j + 1) (by omega)
          omega
        · split
          · have b1 := hk (2 * j) (by omega)
            omega
          · omega
  · rw [if_neg h]; omega
theorem rhOk_64 (s : List UInt8) (h : s.length = 64) : rhOk s = hexOk s := by
  unfold rhOk pairsOk hexOk
  rw [h]
  simp
theorem unF_text (s : List UInt8) (h : s.length = 64) (hk : hexOk s = true) : hashB (unF s) = rhF s ∧ hexL (hashB (unF s)) = s := by
  have e : unE s = 0 := by unfold unE; rw [if_neg (by omega), if_neg (by omega), if_pos hk]
  have hk2 := hexOk_iff.1 hk
  have ef : ∀ j, j < 32 → unF s j = 16 * hv s (2 * j) + hv s (2 * j + 1) := fun j hj => by
    unfold unF pref
    rw [if_pos e, if_pos (by omega)]
  have e1 : hashB (unF s) = rhB s 32 := by
    unfold hashB rhB
    refine List.map_congr_left fun j hj => ?_
    rw [ef j (List.mem_range.1 hj)]
  have hp : pairsOk s = true := pairsOk_iff.2 fun k hk3 => hk2 k (by omega)
  refine ⟨?_, ?_⟩
  · unfold rhF
    rw [if_pos hp, h, e1]
  · have hl : (hexL (hashB (unF s))).length = 64 := by rw [hexL_len, hashB_len]
    have eg : ∀ k, k < 64 → (hexL (hashB (unF s))).getD k 0 = s.getD k 0 := fun k hk3 => by
      obtain ⟨h1, h2⟩ := hexL_getD (hashB (unF s)) (k / 2) (by rw [hashB_len]; omega)
      have r1 := hv_range s (2 * (k / 2))
      have r2 := hv_range s (2 * (k / 2) + 1)
      have b1 := hk2 (2 * (k / 2)) (by omega)
      have b2 := hk2 (2 * (k / 2) + 1) (by omega)
      have hb : ((hashB (unF s)).getD (k / 2) 0).toNat = (16 * hv s (2 * (k / 2)) + hv s (2 * (k / 2) + 1)).toNat := by
        rw [hashB_getD _ _ (by omega), ef _ (by omega), UInt8.toNat_ofNat_of_lt' (by show _ < 256; omega)]
      rw [hb] at h1 h2
      rcases Nat.mod_two_eq_zero_or_one k with h3 | h3
      · rw [show 2 * (k / 2) = k by omega] at h1 r1 b1 h2 r2 b2
        rw [h1, show (16 * hv s k + hv s (k + 1)).toNat / 16 = (hv s k).toNat by omega]
        exact dig_of_ix _ b1
      · rw [show 2 * (k / 2) + 1 = k by omega] at h2 r2 b2
        rw [h2, show (16 * hv s (2 * (k / 2)) + hv s k).toNat % 16 = (hv s k).toNat by omega]
        exact dig_of_ix _ b2
    apply List.ext_getElem
    · rw [hl, h]
    · intro k h1 h2
      have := eg k (by omega)
      rw [List.getD_eq_getElem?_getD, List.getD_eq_getElem?_getD, List.getElem?_eq_getElem h1, List.getElem?_eq_getElem h2] at this
      exact this
def hexLPre (gg sz n : Nat) (get : Nat → List CV) (xs : List CV) (s : List UInt8) : Prop := KsAt gg sz n get ∧ HashC xs
def sHexL : SpecF
  | [.agg xs, .c (.str s)], [.glob gg sz n get] => some (hexLPre gg sz n get xs s, .c .tt, [.dead])
  | _, _ => none

set_option maxRecDepth 100000 in
set_option maxHeartbeats 8000000 in
theorem hexLP : Fn Tryd.prog 6 [0] [] sHexL := by
  have hC : CtsOk Tryd.prog [(16, appFn [0] [] sFirst2), (23, appPure sHex), (27, appPure sFromHex), (28, appPure sRFromHex), (22, appPure sText)] := CtsOk.cons (Fn.ct firstP) <| CtsOk.cons (Pure.ct hexP) <| CtsOk.cons (Pure.ct fromHexP) <| CtsOk.cons (Pure.ct rfromHexP) <| CtsOk.cons (Pure.ct rtextP) <| CtsOk.nil _
  refine Fn.of (E := tbC) [0] 0 [] tbC_ok hC (by kernel_rfl) Tryd.func6 rfl rfl rfl (by kernel_rfl) (by kernel_rfl) 1 5 1 ?_ ?_
  · intro args h pre r h' hs
    unfold sHexL at hs
    split at hs
    · cases hs; exact ⟨rfl, rfl, Nat.le_of_ble_eq_true rfl⟩
    · cases hs
  · intro args h pre r h' hs hp
    unfold sHexL at hs
    split at hs
    rotate_left
    · cases hs
    rename_i xs s gg sz n get
    cases hs
    obtain ⟨hK, ⟨f, rfl, hf⟩⟩ := hp
    refine ⟨_, hK.same, ?_⟩
    clear hK
    unfold hashC
    unfold sFirst2 sHex sFromHex sRFromHex sText
    generalize hg0 : KsAt = g0
    generalize hg1 : kOf = g1
    generalize hg2 : HashC = g2
    generalize hg3 : hexL = g3
    generalize hg4 : u8s = g4
    generalize hg5 : unE = g5
    generalize hg6 : unF = g6
    generalize hg7 : rhF = g7
    generalize hg8 : rhOk = g8
    generalize hg9 : rhexPre = g9
    generalize hg10 : (List.length : List UInt8 → Nat) = g10
    generalize hA : Arith.std = A
    set_option cbv.maxSteps 4000000 in cbv
    subst hA hg0 hg1 hg2 hg3 hg4 hg5 hg6 hg7 hg8 hg9 hg10
    have hx0 : unE (hexL (hashB f)) = 0 := unE_hex _ (hashB_len f)
    have lx : (hexL (hashB f)).length = 64 := by rw [hexL_len, hashB_len]
    have hxe : eqH (unF (hexL (hashB f))) f = true := eqH_iff.2 (unF_hex f hf)
    have hcF : HashC (hashC (unF s)) := ⟨_, rfl, unF_range s⟩
    have hz : unE s ≠ 0 → eqH (unF s) (fun _ => 0) = true := fun h => by rw [zeroF h]; exact eqH_self _
    refine Need.mk ksAt_self fun _ => ?_
    refine Ife.mk (fun _ => Need.mk ksAt_self fun _ => by exact ⟨[0], ⟨rfl, by repeat' (first | exact trivial | exact rfl | apply And.intro), by decide, rfl, by repeat' (first | exact trivial | exact rfl | apply And.intro)⟩⟩) (fun h1 => ?_)
    have h1 : s.length ≤ 200 := by have := of_decide_eq_false (p := (200 : Int) < (s.length : Int)) h1; omega
    refine Need.mk ⟨f, rfl, hf⟩ fun _ => ?_
    refine Need.mk (by show (hexL (hashB f)).length ≤ 140737488355328; omega) fun _ => Need.mk (by show s.length ≤ 140737488355328; omega) fun _ => ?_
    refine Ife.mk (fun hb => absurd (show (!decide (unE (hexL (hashB f)) = 0)) = true from hb) (by rw [hx0]; decide)) (fun _ => ?_)
    refine Ife.mk (fun hb => absurd (show (!eqH (unF (hexL (hashB f))) f) = true from hb) (by rw [hxe]; decide)) (fun _ => ?_)
    refine Need.mk (by show s.length ≤ 1000000; omega) fun _ => ?_
    refine Ife.mk (fun a => ?_) (fun a => ?_)
    · have a : s.length < 64 := by have := of_decide_eq_true (p := (s.length : Int) < 64) a; omega
      have e : unE s = 2 := by unfold unE; rw [if_pos a]
      refine Ife.mk (fun _ => ?_) (fun hb => absurd ((show decide (unE s = 2) = true from by rw [e]; rfl).symm.trans hb) (by decide))
      exact ⟨[0], ⟨rfl, (show eqH (unF s) (fun _ => 0) = true from hz (by rw [e]; decide)), by decide, rfl, by repeat' (first | exact trivial | exact rfl | apply And.intro)⟩⟩
    have a : 64 ≤ s.length := by have := of_decide_eq_false (p := (s.length : Int) < 64) a; omega
    refine Ife.mk (fun b => ?_) (fun b => ?_)
    · have b : 64 < s.length := by have := of_decide_eq_true (p := (64 : Int) < (s.length : Int)) b; omega
      have e : unE s = 4 := by unfold unE; rw [if_neg (by omega), if_pos b]
      refine Ife.mk (fun _ => ?_) (fun hb => absurd ((show decide (unE s = 4) = true from by rw [e]; rfl).symm.trans hb) (by decide))
      exact ⟨[0], ⟨rfl, (show eqH (unF s) (fun _ => 0) = true from hz (by rw [e]; decide)), by decide, rfl, by repeat' (first | exact trivial | exact rfl | apply And.intro)⟩⟩
    have b : s.length = 64 := by have := of_decide_eq_false (p := (64 : Int) < (s.length : Int)) b; omega
    have eo := rhOk_64 s b
    refine Ife.mk (fun c => ?_) (fun c => ?_)
    · have c : (!rhOk s) = true := c
      rw [eo] at c
      have c : hexOk s = false := by simpa using c
      have e : unE s = 3 := by unfold unE; rw [if_neg (by omega), if_neg (by omega), c]; rfl
      refine Ife.mk (fun _ => ?_) (fun hb => absurd ((show decide (unE s = 3) = true from by rw [e]; rfl).symm.trans hb) (by decide))
      exact ⟨[0], ⟨rfl, (show eqH (unF s) (fun _ => 0) = true from hz (by rw [e]; decide)), by decide, rfl, by repeat' (first | exact trivial | exact rfl | apply And.intro)⟩⟩
    have c : (!rhOk s) = false := c
    rw [eo] at c
    have c : hexOk s = true := by simpa using c
    have e : unE s = 0 := by unfold unE; rw [if_neg (by omega), if_neg (by omega), if_pos c]
    obtain ⟨t1, t2⟩ := unF_text s b c
    refine Ife.mk (fun _ => ?_) (fun hb => absurd ((show decide (unE s = 0) = true from by rw [e]; rfl).symm.trans hb) (by decide))
    refine Need.mk hcF fun _ => ?_
    refine Ife.mk (fun _ => ?_) (fun hb => absurd ((show decide (u8s (hashC (unF s)) = rhF s) = true from decide_eq_true t1).symm.trans hb) (by decide))
    refine Need.mk hcF fun _ => ?_
    exact ⟨[0], ⟨rfl, (show decide (hexL (u8s (hashC (unF s))) = s) = true from decide_eq_true t2), by decide, rfl, by repeat' (first | exact trivial | exact rfl | apply And.intro)⟩⟩

end Vx
theorem shaHexWalk (w : World) (hk : ∀ i, i < 64 → w.cell? ⟨0, i, none⟩ = some (.int .u32 (Sha.kOf i))) (f : Nat → Int) (hf : ∀ i, 0 ≤ f i ∧ f i < 256) (s : ByteArray) (hs : s.size ≤ maxLen) :
    Calls Tryd.prog 6 #[.agg (hashV f).toArray, .string s] w fun e w' => e = .returned (.bool true) ∧ Below w.heap.size w w' := by
  obtain ⟨l, rfl⟩ : ∃ l : List UInt8, s = ⟨l.toArray⟩ := ⟨s.data.toList, by cases s; simp⟩
  refine Calls.mono (Vx.hexLP.run [.agg (Vx.hashC f), .c (.str l)] [.glob 0 1 64 (fun i => [.int .u32 (Sha.kOf i)])] _ _ _ rfl
    ⟨Vx.ksAt_self, ⟨_, rfl, hf⟩⟩ [⟨0, undef, 0⟩] w _ (Vx.relGlob hk) ⟨_, _, rfl, ⟨_, hashC_is f _, rfl⟩, _, _, rfl, rfl, rfl⟩) fun e W' he => ?_
  obtain ⟨u, ρ', rfl, hu, hr⟩ := he
  obtain rfl : .bool true = u := Option.some.inj hu
  exact ⟨rfl, Vx.Rel.toBelow hr⟩
end Go.Proofs.YtophhppklaofaaaDoor
end

section
/- Records: their heads, by the walker. -/
namespace Go.Proofs.YtophhppklaofaaaDoor.Vx
open Go.RowKit Sha
set_option linter.unusedVariables false
set_option linter.unusedSimpArgs false
def tbF0 : Tbl where
  T :=
    (3, ⟨1, false, [.int .i64 (0)], .int .i64, 8⟩) ::
    (4, ⟨1, false, [.ff], .bool, 1⟩) ::
    (9, ⟨1, false, [.str []], .str, 16⟩) ::
    (5, ⟨1, false, [.int .u8 (0)], .int .u8, 1⟩) ::
    (89, ⟨1, false, [.int .u64 (0)], .int .u64, 8⟩) ::
    (44, ⟨1, false, [.val (.slice none 0 0)], .slice 5, 24⟩) ::
    (27, ⟨1, false, [.val (.slice none 0 0)], .slice 9, 24⟩) ::
    (97, ⟨4, true, [.int .u8 (0), .int .u8 (0), .int .u8 (0), .int .u8 (0)], .array 4 5, 4⟩) ::
    (36, ⟨1, false, [.int .i64 (0)], .int .i64, 8⟩) ::
    (24, ⟨32, true, [.int .u8 (0), .int .u8 (0), .int .u8 (0), .int .u8 (0), .int .u8 (0), .int .u8 (0), .int .u8 (0), .int .u8 (0), .int .u8 (0), .int .u8 (0), .int .u8 (0), .int .u8 (0), .int .u8 (0), .int .u8 (0), .int .u8 (0), .int .u8 (0), .int .u8 (0), .int .u8 (0), .int .u8 (0), .int .u8 (0), .int .u8 (0), .int .u8 (0), .int .u8 (0), .int .u8 (0), .int .u8 (0), .int .u8 (0), .int .u8 (0), .int .u8 (0), .int .u8 (0), .int .u8 (0), .int .u8 (0), .int .u8 (0)], .array 32 5, 32⟩) ::
    []
  F :=
    (24, [0, 0, 0, 0, 0, 0, 0, 0, 0, 0, 0, 0, 0, 0, 0, 0, 0, 0, 0, 0, 0, 0, 0, 0, 0, 0, 0, 0, 0, 0, 0, 0]) ::
    []
  sym := true

theorem tbF0_ok : tbF0.Ok Tryd.prog where
  T :=
    TblOk.cons (by kernel_rfl) <|
    TblOk.cons (by kernel_rfl) <|
    TblOk.cons (by kernel_rfl) <|
    TblOk.cons (by kernel_rfl) <|
    TblOk.cons (by kernel_rfl) <|
    TblOk.cons (by kernel_rfl) <|
    TblOk.cons (by kernel_rfl) <|
    TblOk.cons (by kernel_rfl) <|
    TblOk.cons (by kernel_rfl) <|
    TblOk.cons (by kernel_rfl) <|
    TblOk.nil _
  F :=
    FlatsOk.cons (FlatOk.of (D := .array 32 5) 6 (by decide) (by kernel_rfl) (by kernel_rfl) rfl (by kernel_rfl)) <|
    FlatsOk.nil _

/-- A digit of a number, by 256, the greatest first. -/
def d8 (n : Int) (j : Nat) : Int := n / 256 ^ (7 - j) % 256
def eightPre (n : Int) : Prop := 0 ≤ n ∧ n ≤ 72057594037927935
def sum4Pre (gg sz n : Nat) (get : Nat → List CV) (s : List UInt8) : Prop := KsAt gg sz n get ∧ s.length ≤ 140737488350000
def beNPre (s : List UInt8) : Prop := s.length ≤ 4
def be8 (n : Int) : List UInt8 := [UInt8.ofNat (d8 n 0).toNat, UInt8.ofNat (d8 n 1).toNat, UInt8.ofNat (d8 n 2).toNat, UInt8.ofNat (d8 n 3).toNat, UInt8.ofNat (d8 n 4).toNat, UInt8.ofNat (d8 n 5).toNat, UInt8.ofNat (d8 n 6).toNat, UInt8.ofNat (d8 n 7).toNat]
def be4 (n : Int) : List UInt8 := [UInt8.ofNat (d8 n 4).toNat, UInt8.ofNat (d8 n 5).toNat, UInt8.ofNat (d8 n 6).toNat, UInt8.ofNat (d8 n 7).toNat]
/-- The sum's first four bytes. -/
def sum4 (l : List UInt8) : List UInt8 := (hashB (sumI l)).take 4
/-- The number that bytes spell. -/
def beN (l : List UInt8) : Int := l.foldl (fun n b => n * 256 + (b.toNat : Int)) 0
theorem d8_range (n : Int) (j : Nat) : 0 ≤ d8 n j ∧ d8 n j < 256 := by unfold d8; omega
theorem be8_drop (n : Int) : (be8 n).drop 4 = be4 n := rfl
theorem be4_len (n : Int) : (be4 n).length = 4 := rfl
theorem sum4_len (l : List UInt8) : (sum4 l).length = 4 := by unfold sum4; rw [List.length_take, hashB_len]; rfl
theorem wrap_u8 (x : Int) : IntKind.wrap .u8 x = x % 256 := by unfold IntKind.wrap; simp [IntKind.signed, IntKind.bits]
theorem d8_step (n : Int) (i : Int) (h0 : 0 ≤ i) (h1 : i < 8) : n / 256 ^ (7 - i).toNat % 256 = d8 n i.toNat := by
  unfold d8
  rw [show (7 - i).toNat = 7 - i.toNat by omega]
theorem dv_succ (n : Int) (k : Nat) : n / 256 ^ k / 256 = n / 256 ^ (k + 1) := by
  rw [Int.ediv_ediv_of_nonneg (Int.pow_nonneg (by decide)), Int.pow_succ]
theorem beN_snoc (l : List UInt8) (b : UInt8) : beN (l ++ [b]) = beN l * 256 + (b.toNat : Int) := by
  unfold beN
  rw [List.foldl_append]
  rfl
theorem beN_take (l : List UInt8) (k : Nat) (h : k < l.length) : beN (l.take (k + 1)) = beN (l.take k) * 256 + ((l.getD k 0).toNat : Int) := by
  rw [List.take_add_one, List.getElem?_eq_getElem h, List.getD_eq_getElem?_getD, List.getElem?_eq_getElem h]
  exact beN_snoc _ _
theorem beN_range (l : List UInt8) : 0 ≤ beN l ∧ beN l < 256 ^ l.length := by
  have key : ∀ n : Nat, ∀ l : List UInt8, l.length = n → 0 ≤ beN l ∧ beN l < 256 ^ l.length := fun n => by
    induction n with
    | zero => intro l h; rw [List.eq_nil_of_length_eq_zero h]; decide
    | succ n ih =>
      intro l h
      have h1 := beN_take l n (by omega)
      rw [List.take_of_length_le (by omega)] at h1
      have h2 := ih (l.take n) (by rw [List.length_take]; omega)
      have h3 := (l.getD n 0).toNat_lt
      rw [show (l.take n).length = n by rw [List.length_take]; omega] at h2
      rw [h, h1, Int.pow_succ]
      omega
  exact key _ l rfl
theorem or_byte (n b : Int) (hn : 0 ≤ n) (hn2 : n < 4294967296) (hb : 0 ≤ b) (hb2 : b < 256) : bitsStd .or .i64 (IntKind.wrap .i64 (n * 2 ^ (min (8 : Int).toNat 64))) (IntKind.wrap .i64 b) = n * 256 + b := by
  have e1 : IntKind.wrap .i64 (n * 2 ^ (min (8 : Int).toNat 64)) = ((n.toNat * 256 : Nat) : Int) := by
    rw [show (2 : Int) ^ (min (8 : Int).toNat 64) = 256 from rfl, fitStd_wrap (by unfold fitStd; omega)]
    omega
  have e2 : IntKind.wrap .i64 b = ((b.toNat : Nat) : Int) := by rw [fitStd_wrap (by unfold fitStd; omega)]; omega
  rw [e1, e2]
  show IntKind.wrap .i64 (((BitVec.ofInt 64 ((n.toNat * 256 : Nat) : Int)) ||| (BitVec.ofInt 64 ((b.toNat : Nat) : Int))).toNat : Int) = _
  rw [BitVec.ofInt_natCast, BitVec.ofInt_natCast, BitVec.toNat_or, BitVec.toNat_ofNat, BitVec.toNat_ofNat, Nat.mod_eq_of_lt (by omega), Nat.mod_eq_of_lt (by omega)]
  have := Nat.shiftLeft_add_eq_or_of_lt (show b.toNat < 2 ^ 8 by omega) n.toNat
  rw [Nat.shiftLeft_eq] at this
  rw [show n.toNat * 256 ||| b.toNat = n.toNat * 256 + b.toNat from this.symm, fitStd_wrap (by unfold fitStd; omega)]
  omega
structure L8 (m : Int) where
  i : Int
  n : Int
  g : Nat → Int
  h0 : -1 ≤ i
  h1 : i ≤ 7
  h2 : n = m / 256 ^ (7 - i).toNat
  h3 : ∀ j : Nat, i < (j : Int) → j < 8 → g j = d8 m j
def sREight : List SV → Option (Prop × SV)
  | [.c (.int .i64 n)] => some (eightPre n, .c (.str (be8 n)))
  | _ => none

set_option maxRecDepth 100000 in
set_option maxHeartbeats 2000000 in
theorem eightP : Pure Tryd.prog 43 sREight := by
  have hC : CtsOk Tryd.prog [] := CtsOk.nil _
  refine Pure.of (E := tbF0) (C := []) [] 0 [] tbF0_ok hC (by kernel_rfl) Tryd.func43 rfl rfl rfl (by kernel_rfl) (by kernel_rfl) ?_ ?_
  · intro args pre r h
    unfold sREight at h
    split at h
    · cases h; rfl
    · cases h
  · intro args pre r h hp
    unfold sREight at h
    split at h
    rotate_left
    · cases h
    rename_i n
    cases h
    obtain ⟨hn0, hn1⟩ := hp
    generalize hg0 : be8 = g0
    generalize hg1 : (List.length : List UInt8 → Nat) = g1
    generalize hL : lft Tryd.prog _ = L
    generalize hA : Arith.std = A
    cbv
    subst hA hg0 hg1 hL
    refine Ife.mk (fun h => absurd (of_decide_eq_true (p := n < 0) h) (by omega)) (fun _ => ?_)
    refine Ife.mk (fun h => absurd (of_decide_eq_true (p := 72057594037927935 < n) h) (by omega)) (fun _ => ?_)
    show Runs Tryd.prog 0 (.loop _) _ _
    refine loop_ruleR (N := env (lft Tryd.prog 0) 0 .std tbF0 [] []) rfl tbF0_ok hC (fun c st K _ h => h) (by kernel_rfl) [] (X := L8 n)
      (S := fun x => ⟨[.c (.int .i64 x.n), .any, .any, .c (.sl 0 0 8 8), .c (.int .i64 x.i)] ++ List.replicate 21 .any, [.cells 5 [.int .u8 (x.g 0), .int .u8 (x.g 1), .int .u8 (x.g 2), .int .u8 (x.g 3), .int .u8 (x.g 4), .int .u8 (x.g 5), .int .u8 (x.g 6), .int .u8 (x.g 7)]]⟩) (μ := fun x => (x.i + 1).toNat) ⟨7, n, fun _ => 0, by omega, by omega, (by show n = n / 256 ^ (0 : Nat); simp), fun j hj hj2 => absurd hj (by omega)⟩ (by kernel_rfl) [0] ?_ ?_
    · refine ⟨rfl, by decide, ?_, ?_⟩ <;> repeat' (first | exact trivial | exact rfl | apply And.intro)
    rintro ⟨i, m, g, hi0, hi1, hm, hg⟩
    generalize hg0 : be8 = g0
    generalize hg1 : (List.length : List UInt8 → Nat) = g1
    generalize hL : lft Tryd.prog _ = L
    generalize hA : Arith.std = A
    cbv
    subst hA hg0 hg1 hL
    replace hi0 : -1 ≤ i := hi0
    replace hi1 : i ≤ 7 := hi1
    replace hg : ∀ j : Nat, i < @Nat.cast Int instNatCastInt j → j < 8 → g j = d8 n j := hg
    have hm0 : 0 ≤ m := by rw [hm]; exact Int.ediv_nonneg hn0 (Int.pow_nonneg (by decide))
    have hm1 : m ≤ n := by rw [hm]; exact Int.ediv_le_self _ hn0
    refine Ife.mk (fun hlt => ?_) (fun hlt => ?_)
    · replace hlt : 0 ≤ i := of_decide_eq_true (p := (0 : Int) ≤ i) hlt
      have qm : m.tdiv 256 = m / 256 := Int.tdiv_eq_ediv_of_nonneg hm0
      have rm : m.tmod 256 = m % 256 := Int.tmod_eq_emod_of_nonneg hm0
      have hw : IntKind.wrap .i64 (m.tdiv 256) = m / 256 := by rw [fitStd_wrap (by unfold fitStd; omega), qm]
      have hb : IntKind.wrap .u8 (m.tmod 256) = m % 256 := by rw [wrap_u8, rm]; omega
      repeat refine Need.mk (by first | exact trivial | (simp only [Arith.std, fitStd]; omega) | (simp [Arith.std, fitStd]; omega)) fun _ => ?_
      refine ⟨⟨i - 1, IntKind.wrap .i64 (m.tdiv 256), fun j => Arith.std.upd i.toNat j (IntKind.wrap .u8 (m.tmod 256)) (g j), by omega, by omega, ?h2, ?h3⟩, [0], (by show (i - 1 + 1).toNat < (i + 1).toNat; omega), ?st⟩
      case st => refine ⟨rfl, by decide, ?_, ?_⟩ <;> repeat' (first | exact trivial | exact rfl | apply And.intro)
      case h2 =>
        rw [hw, hm, dv_succ, show (7 - (i - 1)).toNat = (7 - i).toNat + 1 by omega]
      case h3 =>
        intro j hj hj2
        replace hj : i - 1 < @Nat.cast Int instNatCastInt j := hj
        show (if i.toNat = j then IntKind.wrap .u8 (m.tmod 256) else g j) = _
        by_cases hji : i.toNat = j
        · rw [if_pos hji, hb, hm, ← hji]
          exact d8_step n i hlt (by omega)
        · rw [if_neg hji]
          exact hg j (by omega) hj2
    · replace hlt : ¬ (0 : Int) ≤ i := of_decide_eq_false (p := (0 : Int) ≤ i) hlt
      have hq : ∀ j : Nat, j < 8 → g j = d8 n j := fun j hj => hg j (by omega) hj
      show [UInt8.ofNat (g 0).toNat, UInt8.ofNat (g 1).toNat, UInt8.ofNat (g 2).toNat, UInt8.ofNat (g 3).toNat, UInt8.ofNat (g 4).toNat, UInt8.ofNat (g 5).toNat, UInt8.ofNat (g 6).toNat, UInt8.ofNat (g 7).toNat] = be8 n
      rw [hq 0 (by decide), hq 1 (by decide), hq 2 (by decide), hq 3 (by decide), hq 4 (by decide), hq 5 (by decide), hq 6 (by decide), hq 7 (by decide)]
      rfl

def sBeN : List SV → Option (Prop × SV)
  | [.c (.str s)] => some (beNPre s, .c (.int .i64 (beN s)))
  | _ => none

structure LBe (s : List UInt8) where
  i : Int
  n : Int
  h0 : 0 ≤ i
  h1 : i ≤ (s.length : Int)
  h2 : n = beN (s.take i.toNat)
set_option maxRecDepth 100000 in
set_option maxHeartbeats 2000000 in
theorem beNP : Pure Tryd.prog 82 sBeN := by
  have hC : CtsOk Tryd.prog [] := CtsOk.nil _
  refine Pure.of (E := tbF0) (C := []) [] 0 [] tbF0_ok hC (by kernel_rfl) Tryd.func82 rfl rfl rfl (by kernel_rfl) (by kernel_rfl) ?_ ?_
  · intro args pre r h
    unfold sBeN at h
    split at h
    · cases h; rfl
    · cases h
  · intro args pre r h hp
    unfold sBeN at h
    split at h
    rotate_left
    · cases h
    rename_i s
    cases h
    have hs : s.length ≤ 4 := hp
    generalize hg0 : beN = g0
    generalize hg1 : (List.length : List UInt8 → Nat) = g1
    generalize hL : lft Tryd.prog _ = L
    generalize hA : Arith.std = A
    cbv
    subst hA hg0 hg1 hL
    show Runs Tryd.prog 0 (.loop _) _ _
    refine loop_ruleR (N := env (lft Tryd.prog 0) 0 .std tbF0 [] []) rfl tbF0_ok hC (fun c st K _ h => h) (by kernel_rfl) [] (X := LBe s)
      (S := fun x => ⟨[.c (.str s), .any, .any, .c (.int .i64 x.n), .any, .any, .c (.int .i64 (s.length : Int)), .c (.int .i64 x.i)] ++ List.replicate 11 .any, []⟩) (μ := fun x => s.length - x.i.toNat) ⟨0, 0, by omega, by omega, rfl⟩ (by kernel_rfl) [] ?_ ?_
    · refine ⟨rfl, by decide, ?_, ?_⟩ <;> repeat' (first | exact trivial | exact rfl | apply And.intro)
    rintro ⟨i, n, hi0, hin, hn⟩
    generalize hg0 : beN = g0
    generalize hg1 : (List.length : List UInt8 → Nat) = g1
    generalize hL : lft Tryd.prog _ = L
    generalize hA : Arith.std = A
    cbv
    subst hA hg0 hg1 hL
    replace hi0 : 0 ≤ i := hi0
    replace hin : i ≤ @Nat.cast Int instNatCastInt s.length := hin
    refine Ife.mk (fun hlt => ?_) (fun hlt => ?_)
    · replace hlt : i < @Nat.cast Int instNatCastInt s.length := of_decide_eq_true (p := i < (s.length : Int)) hlt
      have hr := beN_range (s.take i.toNat)
      have h256 : (256 : Int) ^ (s.take i.toNat).length ≤ 16777216 := by
        rw [List.length_take, Nat.min_eq_left (by omega)]
        have : i.toNat = 0 ∨ i.toNat = 1 ∨ i.toNat = 2 ∨ i.toNat = 3 := by omega
        rcases this with h | h | h | h <;> rw [h] <;> decide
      rw [← hn] at hr
      have hb := (s.getD i.toNat 0).toNat_lt
      repeat refine Need.mk (by first | exact trivial | (simp only [Arith.std, fitStd]; omega) | (simp [Arith.std, fitStd]; omega)) fun _ => ?_
      refine ⟨⟨i + 1, ?nv, by omega, by omega, ?h2⟩, [], (by show s.length - (i + 1).toNat < s.length - i.toNat; omega), ?st⟩
      case st => refine ⟨rfl, by decide, ?_, ?_⟩ <;> repeat' (first | exact trivial | exact rfl | apply And.intro)
      case h2 =>
        rw [show (i + 1).toNat = i.toNat + 1 by omega, beN_take s i.toNat (by omega), ← hn]
        exact or_byte n ((s.getD i.toNat 0).toNat : Int) hr.1 (by omega) (by omega) (by omega)
    · replace hlt : ¬ i < @Nat.cast Int instNatCastInt s.length := of_decide_eq_false (p := i < (s.length : Int)) hlt
      show n = beN s
      rw [hn, List.take_of_length_le (by omega)]

def sSum4 : SpecF
  | [.c (.str s)], [.glob gg sz n get] => some (sum4Pre gg sz n get s, .c (.str (sum4 s)), [.dead])
  | _, _ => none

set_option maxRecDepth 100000 in
set_option maxHeartbeats 2000000 in
theorem sum4P : Fn Tryd.prog 80 [0] [] sSum4 := by
  have hC : CtsOk Tryd.prog [(17, appFn [0] [(9, 1)] sSum), (21, appPure sText)] := CtsOk.cons (Fn.ct sumP) <| CtsOk.cons (Pure.ct textP) <| CtsOk.nil _
  refine Fn.of (E := tbF0) [0] 0 [] tbF0_ok hC (by kernel_rfl) Tryd.func80 rfl rfl rfl (by kernel_rfl) (by kernel_rfl) 1 5 1 ?_ ?_
  · intro args h pre r h' hs
    unfold sSum4 at hs
    split at hs
    · cases hs; exact ⟨rfl, rfl, Nat.le_of_ble_eq_true rfl⟩
    · cases hs
  · intro args h pre r h' hs hp
    unfold sSum4 at hs
    split at hs
    rotate_left
    · cases hs
    rename_i s gg sz n get
    cases hs
    obtain ⟨hK, hs⟩ := hp
    refine ⟨_, hK.same, ?_⟩
    clear hK
    unfold sSum sText
    generalize hg0 : sumPre = g0
    generalize hg1 : KsAt = g1
    generalize hg2 : joinG = g2
    generalize hg3 : cutC = g3
    generalize hg4 : sumI = g4
    generalize hg5 : kOf = g5
    generalize hg6 : HashC = g6
    generalize hg7 : u8s = g7
    generalize hg8 : sum4 = g8
    generalize hg9 : (List.length : List UInt8 → Nat) = g9
    generalize hA : Arith.std = A
    cbv
    subst hA hg0 hg1 hg2 hg3 hg4 hg5 hg6 hg7 hg8 hg9
    have j1 := (strs_cut [s]).2
    have f1 : [s].flatten = s := by simp
    have p1 := sumPre_cut [s] (by rw [f1]; omega) (by simp)
    refine Need.mk p1 fun _ => Need.mk (hashC_sum _) fun _ => ?_
    refine Need.mk (by show (0 : Int) ≤ 0 ∧ (0 : Int) ≤ 4 ∧ (4 : Int) ≤ ((hashB _).length : Int); rw [hashB_len]; decide) fun _ => ?_
    exact ⟨[0], ⟨rfl, (show (List.take 4 (hashB (sumI (joinG 1 (cutC 1 [CV.str s] 0))))).drop 0 = sum4 s from by rw [show joinG 1 (cutC 1 [CV.str s] 0) = s from j1.trans f1]; rfl), by decide, rfl, by repeat' (first | exact trivial | exact rfl | apply And.intro)⟩⟩

def sRSum4 : List SV → Option (Prop × SV)
  | [.c (.str s)] => some (rsumPre s, .c (.str (sum4 s)))
  | _ => none

set_option maxRecDepth 100000 in
set_option maxHeartbeats 2000000 in
theorem rsum4P : Pure Tryd.prog 81 sRSum4 := by
  have hC : CtsOk Tryd.prog [(19, appPure sRSum), (22, appPure sText)] := CtsOk.cons (Pure.ct rsumP) <| CtsOk.cons (Pure.ct rtextP) <| CtsOk.nil _
  refine Pure.of (E := tbF0) (C := [(19, appPure sRSum), (22, appPure sText)]) [] 0 [] tbF0_ok hC (by kernel_rfl) Tryd.func81 rfl rfl rfl (by kernel_rfl) (by kernel_rfl) ?_ ?_
  · intro args pre r h
    unfold sRSum4 at h
    split at h
    · cases h; rfl
    · cases h
  · intro args pre r h hp
    unfold sRSum4 at h
    split at h
    rotate_left
    · cases h
    rename_i s
    cases h
    have hs : s.length ≤ 140737488350000 := hp
    unfold sRSum sText
    generalize hg0 : rsumPre = g0
    generalize hg1 : sumI = g1
    generalize hg2 : HashC = g2
    generalize hg3 : u8s = g3
    generalize hg4 : sum4 = g4
    generalize hg5 : (List.length : List UInt8 → Nat) = g5
    generalize hA : Arith.std = A
    cbv
    subst hA hg0 hg1 hg2 hg3 hg4 hg5
    refine Need.mk hp fun _ => Need.mk (hashC_sum _) fun _ => ?_
    refine Need.mk (by show (0 : Int) ≤ 0 ∧ (0 : Int) ≤ 4 ∧ (4 : Int) ≤ ((hashB _).length : Int); rw [hashB_len]; decide) fun _ => ?_
    rfl

end Go.Proofs.YtophhppklaofaaaDoor.Vx
end
