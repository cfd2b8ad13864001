/- Sums that come in, opened. -/
import Derived.Test.YtophhppklaofaaaDoorOpenSl
import Derived.Test.YtophhppklaofaaaDoorM16
section
namespace Go.Proofs.YtophhppklaofaaaDoor
open Go.ChangeShapes Go.WideShapes Go.ChangeAt Go.RowKit
set_option linter.unusedVariables false
set_option linter.unusedSimpArgs false
section
variable {H : Type} {enc : TypeId × Value → H} {w : World} {base : Nat}
theorem cellsG_u8 : Tryd.prog.cellsOf 5 = 1 := by kernel_rfl
theorem cellsG_Hash : Tryd.prog.cellsOf 24 = 32 := by kernel_rfl
/-- A sum's bytes, as values. -/
def hashV (f : Nat → Int) : List Value := (List.range 32).map fun i => .int .u8 (f i)
theorem hashC_is (f : Nat → Int) (ρ : List Vx.Pl) : Vx.IsL ρ (Vx.hashC f) (hashV f) := rfl
set_option maxRecDepth 100000 in
theorem trod_Hash {spare : Nat → Bool} {held : Bool} {b0 fuel : Nat} {l : List Value} {x : DataW H × List MemPlace} (hf : DataW.trod enc Tryd.prog w b0 spare held fuel 24 l = some x) :
    l.length = 32 ∧ ∃ f : Nat → Int, l = hashV f ∧ ∀ i, 0 ≤ f i ∧ f i < 256 := by
  obtain ⟨xs, m, _, _, hl, hlen, hff⟩ := DataW.trod_array Tryd.underlying24 hf
  rw [cellsG_Hash] at hl
  have each : ∀ i (h : i < 32), ∃ n : Int, l[i]'(by omega) = .int .u8 n ∧ 0 ≤ n ∧ n < 256 := fun i h => by
    have f := hff i h
    rw [cellsG_u8] at f
    have e := List.getElem?_eq_getElem (l := xs) (i := i) (by omega)
    rw [e] at f
    obtain ⟨n, e1, _, hw⟩ := DataW.trod_int Tryd.underlying5 f
    have hb : 0 ≤ n ∧ n ≤ 255 := bounds_u8 hw
    have e2 : (List.drop (i * 1) l).take 1 = [l[i]'(by omega)] := by
      rw [Nat.mul_one, List.drop_eq_getElem_cons (by omega)]
      rfl
    rw [e2] at e1
    exact ⟨n, by simpa using e1, hb.1, by omega⟩
  refine ⟨hl, fun i => if h : i < 32 then Classical.choose (each i h) else 0, ?_, fun i => ?_⟩
  · apply List.ext_getElem
    · simp [hashV, hl]
    · intro i h1 h2
      simp only [hashV, List.length_map, List.length_range] at h2
      simp only [hashV, List.getElem_map, List.getElem_range]
      rw [dif_pos h2]
      exact (Classical.choose_spec (each i h2)).1
  · dsimp only
    split
    · rename_i h
      exact (Classical.choose_spec (each i h)).2
    · omega
set_option maxRecDepth 100000 in
theorem open_Hash {spare : Nat → Bool} {held : Bool} {v : Value} {d : DataW H} {p : List MemPlace} (hv : Value.okWide Tryd.prog w .any base 24 v) (h : DataW.Trod enc Tryd.prog w 0 spare held 24 v d p) :
    ∃ f : Nat → Int, v = .agg (hashV f).toArray ∧ ∀ i, 0 ≤ f i ∧ f i < 256 := by
  simp only [Value.okWide, Tryd.underlying24] at hv
  obtain ⟨cs, rfl, hz⟩ := hv
  obtain ⟨fuel, hf⟩ := h
  obtain ⟨_, f, e, hr⟩ := trod_Hash hf
  refine ⟨f, ?_, hr⟩
  have : cs = (hashV f).toArray := by
    have e' : cs.toList = hashV f := e
    rw [← e']
  rw [this]
end
end Go.Proofs.YtophhppklaofaaaDoor
end

section
/- The laws ShaTells, ShaLess. -/
namespace Go.Proofs.YtophhppklaofaaaDoor
open Go.RowKit Sha
set_option linter.unusedVariables false
set_option linter.unusedSimpArgs false
namespace Vx
def tellsPre (gg sz n : Nat) (get : Nat → List CV) (ty one m : Nat) (gets : Nat → List CV) : Prop := KsAt gg sz n get ∧ ty = 9 ∧ one = 1 ∧ StrsAt m gets ∧ m ≤ 9223372036854775807
def sTells : SpecF
  | [.c (.row 1)], [.glob gg sz n get, .elems ty one m gets] => some (tellsPre gg sz n get ty one m gets, .c .tt, [.dead, .dead])
  | _, _ => none


def lessLPre (gg sz n : Nat) (get : Nat → List CV) (xs ys zs : List CV) : Prop := KsAt gg sz n get ∧ HashC xs ∧ HashC ys ∧ HashC zs
/-! ### The order -/
theorem cmp_less : ∀ l m : List UInt8, decide (Lib.compareBytes l m < 0) = Op.bytesLess l m
  | [], [] => rfl
  | [], _ :: _ => rfl
  | _ :: _, [] => rfl
  | a :: x, b :: y => by
    simp only [Lib.compareBytes, Op.bytesLess]
    have ih := cmp_less x y
    by_cases h1 : a < b
    · simp [h1]
    · by_cases h2 : b < a
      · have h3 : ¬ a = b := fun h => by subst h; exact UInt8.lt_irrefl _ h2
        simp [h1, h2, h3]
      · have h3 : a = b := UInt8.le_antisymm (UInt8.not_lt.1 h2) (UInt8.not_lt.1 h1)
        subst h3
        simp [UInt8.lt_irrefl, ih]
theorem less_irr (l : List UInt8) : Op.bytesLess l l = false := by
  induction l with
  | nil => rfl
  | cons a l ih => simp [Op.bytesLess, UInt8.lt_irrefl, ih]
theorem less_trans : ∀ l m k : List UInt8, Op.bytesLess l m = true → Op.bytesLess m k = true → Op.bytesLess l k = true
  | [], _, [], h1, h2 => by
    rename_i m
    cases m <;> simp [Op.bytesLess] at h1 h2
  | [], _, _ :: _, _, _ => rfl
  | _ :: _, [], _, h1, _ => by simp [Op.bytesLess] at h1
  | _ :: _, _ :: _, [], _, h2 => by simp [Op.bytesLess] at h2
  | a :: x, b :: y, c :: z, h1, h2 => by
    simp only [Op.bytesLess, Bool.or_eq_true, Bool.and_eq_true, decide_eq_true_iff, beq_iff_eq] at h1 h2 ⊢
    rcases h1 with h1 | ⟨rfl, h1⟩
    · rcases h2 with h2 | ⟨rfl, h2⟩
      · exact Or.inl (UInt8.lt_trans h1 h2)
      · exact Or.inl h1
    · rcases h2 with h2 | ⟨rfl, h2⟩
      · exact Or.inl h2
      · exact Or.inr ⟨rfl, less_trans x y z h1 h2⟩
theorem hashB_eq {f g : Nat → Int} (hf : ∀ i, 0 ≤ f i ∧ f i < 256) (hg : ∀ i, 0 ≤ g i ∧ g i < 256) (h : hashB f = hashB g) : eqH f g = true := by
  refine eqH_iff.2 fun i hi => ?_
  have := congrArg (fun l => l[i]?) h
  simp only [hashB, List.getElem?_map, List.getElem?_range hi, Option.map_some, Option.some.injEq] at this
  have h2 := congrArg UInt8.toNat this
  have a1 := hf i
  have a2 := hg i
  rw [UInt8.toNat_ofNat_of_lt' (by show _ < 256; omega), UInt8.toNat_ofNat_of_lt' (by show _ < 256; omega)] at h2
  omega
def sLessL : SpecF
  | [.agg xs, .agg ys, .agg zs], [.glob gg sz n get] => some (lessLPre gg sz n get xs ys zs, .c .tt, [.dead])
  | _, _ => none

set_option maxRecDepth 100000 in
set_option maxHeartbeats 8000000 in
theorem lessLP : Fn Tryd.prog 5 [0] [] sLessL := by
  have hC : CtsOk Tryd.prog [(16, appFn [0] [] sFirst2), (25, appPure sLess), (26, appPure sRLess)] := CtsOk.cons (Fn.ct firstP) <| CtsOk.cons (Pure.ct lessP) <| CtsOk.cons (Pure.ct rlessP) <| CtsOk.nil _
  refine Fn.of (E := tbC) [0] 0 [(3, [(0, true), (1, true), (3, true), (4, true), (2, false), (5, false), (6, true), (7, true), (8, true), (9, true), (10, false), (11, true), (12, true), (13, true), (14, true), (15, false), (16, true), (17, true), (18, true), (19, false), (20, true), (21, true), (22, true), (23, true), (24, true), (25, true), (26, true), (27, true), (28, true), (29, false), (30, true), (31, true), (32, true), (33, true), (34, true), (35, false), (36, true), (37, true), (38, true)])] tbC_ok hC (by kernel_rfl) Tryd.func5 rfl rfl rfl (by kernel_rfl) (by kernel_rfl) 1 5 1 ?_ ?_
  · intro args h pre r h' hs
    unfold sLessL at hs
    split at hs
    · cases hs; exact ⟨rfl, rfl, Nat.le_of_ble_eq_true rfl⟩
    · cases hs
  · intro args h pre r h' hs hp
    unfold sLessL at hs
    split at hs
    rotate_left
    · cases hs
    rename_i xs ys zs gg sz n get
    cases hs
    obtain ⟨hK, ⟨f, rfl, hf⟩, ⟨g, rfl, hg⟩, ⟨h, rfl, hh⟩⟩ := hp
    refine ⟨_, hK.same, ?_⟩
    clear hK
    unfold hashC
    unfold sFirst2 sLess sRLess
    generalize hg0 : KsAt = g0
    generalize hg1 : kOf = g1
    generalize hg2 : lessPre = g2
    generalize hg3 : lessB = g3
    generalize hg4 : lessR = g4
    generalize hA : Arith.std = A
    cbv
    subst hA hg0 hg1 hg2 hg3 hg4
    refine Need.mk ksAt_self fun _ => ?_
    have pp : ∀ {a b : Nat → Int}, (∀ i, 0 ≤ a i ∧ a i < 256) → (∀ i, 0 ≤ b i ∧ b i < 256) → lessPre (hashC a) (hashC b) := fun ha hb => ⟨⟨_, rfl, ha⟩, ⟨_, rfl, hb⟩⟩
    have rr : ∀ a b : Nat → Int, lessB (hashC a) (hashC b) = lessR (hashC a) (hashC b) := fun a b => cmp_less _ _
    have irr : lessR (hashC f) (hashC f) = false := less_irr _
    have tr1 : lessR (hashC f) (hashC g) = true → lessR (hashC g) (hashC f) = true → False := fun h1 h2 => by
      have h3 := less_trans _ _ _ h1 h2
      have h4 : Op.bytesLess (u8s (hashC f)) (u8s (hashC f)) = false := less_irr _
      rw [h4] at h3
      cases h3
    have tr2 : lessR (hashC f) (hashC g) = true → lessR (hashC g) (hashC h) = true → lessR (hashC f) (hashC h) = true := fun h1 h2 => less_trans _ _ _ h1 h2
    have tot : eqH f g = false → lessR (hashC f) (hashC g) = false → lessR (hashC g) (hashC f) = true := fun h1 h2 => by
      have h3 := bytesLess_total (hashB f) (hashB g)
      have h4 : Op.bytesLess (hashB f) (hashB g) = false := h2
      rw [h4] at h3
      have h5 : (hashB f == hashB g) = false := by
        rw [Bool.eq_false_iff]
        intro h6
        rw [hashB_eq hf hg (by simpa using h6)] at h1
        cases h1
      rw [h5] at h3
      exact h3
    have eR1 := rr f g
    have eR2 := rr f f
    have eR3 := rr g f
    have eR4 := rr g h
    have eR5 := rr f h
    have k1 : lessB (hashC f) (hashC g) = true → lessB (hashC g) (hashC f) = true → False := fun h1 h2 => tr1 (eR1.symm.trans h1) (eR3.symm.trans h2)
    have k2 : (!eqH f g) = true → (!lessB (hashC f) (hashC g)) = true → (!lessB (hashC g) (hashC f)) = true → False := fun h1 h2 h3 => by
      have e1 : eqH f g = false := by simpa using h1
      have e2 : lessB (hashC f) (hashC g) = false := by simpa using h2
      have e3 : lessB (hashC g) (hashC f) = false := by simpa using h3
      have e4 := tot e1 (eR1.symm.trans e2)
      rw [← eR3, e3] at e4
      cases e4
    have k3 : lessB (hashC f) (hashC g) = true → (!lessB (hashC f) (hashC g)) = true → False := fun h1 h2 => by rw [h1] at h2; cases h2
    have k5 : lessB (hashC g) (hashC f) = false → (!lessB (hashC g) (hashC f)) = false → False := fun h1 h2 => by rw [h1] at h2; cases h2
    have k6 : lessB (hashC f) (hashC g) = false → (!lessB (hashC f) (hashC g)) = false → False := fun h1 h2 => by rw [h1] at h2; cases h2
    have k4 : (!lessB (hashC f) (hashC g)) = false → (!lessB (hashC g) (hashC h)) = false → lessB (hashC f) (hashC h) = true := fun h1 h2 => by
      have e1 : lessB (hashC f) (hashC g) = true := by simpa using h1
      have e2 : lessB (hashC g) (hashC h) = true := by simpa using h2
      rw [eR5]
      exact tr2 (eR1.symm.trans e1) (eR4.symm.trans e2)
    repeat' (first
      | refine Need.mk (pp hf hg) fun _ => ?_
      | refine Need.mk (pp hf hf) fun _ => ?_
      | refine Need.mk (pp hg hf) fun _ => ?_
      | refine Need.mk (pp hg hh) fun _ => ?_
      | refine Need.mk (pp hf hh) fun _ => ?_
      | refine Ife.mk (fun hb => absurd (show (!(lessB (hashC f) (hashC g) == lessR (hashC f) (hashC g))) = true from hb) (by rw [eR1]; simp)) (fun _ => ?_)
      | refine Ife.mk (fun hb => absurd (show lessB (hashC f) (hashC f) = true from hb) (by rw [eR2, irr]; decide)) (fun _ => ?_)
      | refine Ife.mk (fun hb => ?_) (fun hb => ?_))
    all_goals refine ⟨[0], ⟨rfl, ?_, by decide, rfl, by repeat' (first | exact trivial | exact rfl | apply And.intro)⟩⟩
    all_goals first
      | (show _ = true; exact k4 (by assumption) (by assumption))
      | exact (k1 (by assumption) (by assumption)).elim
      | exact (k2 (by assumption) (by assumption) (by assumption)).elim
      | exact (k3 (by assumption) (by assumption)).elim
      | exact (k5 (by assumption) (by assumption)).elim
      | exact (k6 (by assumption) (by assumption)).elim
      | (show True; trivial)

end Vx
end Go.Proofs.YtophhppklaofaaaDoor
end

section
/- A slice that comes in is put beside what is held already. -/
namespace Go.Proofs.YtophhppklaofaaaDoor.Vx
open Go.RowKit
set_option linter.unusedVariables false
set_option linter.unusedSimpArgs false
end Go.Proofs.YtophhppklaofaaaDoor.Vx
end

section
/- The laws ShaTells, ShaLess, from a world in which the sums' words stand. -/
namespace Go.Proofs.YtophhppklaofaaaDoor
open Go.RowKit
set_option linter.unusedVariables false
set_option linter.unusedSimpArgs false
theorem shaLessWalk (w : World) (hk : ∀ i, i < 64 → w.cell? ⟨0, i, none⟩ = some (.int .u32 (Sha.kOf i))) (f : Nat → Int) (hf : ∀ i, 0 ≤ f i ∧ f i < 256) (g : Nat → Int) (hg : ∀ i, 0 ≤ g i ∧ g i < 256) (h : Nat → Int) (hh : ∀ i, 0 ≤ h i ∧ h i < 256) :
    Calls Tryd.prog 5 #[.agg (hashV f).toArray, .agg (hashV g).toArray, .agg (hashV h).toArray] w fun e w' => e = .returned (.bool true) ∧ Below w.heap.size w w' := by
  refine Calls.mono (Vx.lessLP.run [.agg (Vx.hashC f), .agg (Vx.hashC g), .agg (Vx.hashC h)] [.glob 0 1 64 (fun i => [.int .u32 (Sha.kOf i)])] _ _ _ rfl
    ⟨Vx.ksAt_self, ⟨_, rfl, hf⟩, ⟨_, rfl, hg⟩, ⟨_, rfl, hh⟩⟩ [⟨0, undef, 0⟩] w _ (Vx.relGlob hk) ⟨_, _, rfl, ⟨_, hashC_is f _, rfl⟩, _, _, rfl, ⟨_, hashC_is g _, rfl⟩, _, _, rfl, ⟨_, hashC_is h _, rfl⟩, rfl⟩) fun e W' he => ?_
  obtain ⟨u, ρ', rfl, hu, hr⟩ := he
  obtain rfl : .bool true = u := Option.some.inj hu
  exact ⟨rfl, Vx.Rel.toBelow hr⟩
end Go.Proofs.YtophhppklaofaaaDoor
end
