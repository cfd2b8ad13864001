/- Sums that come in, opened. -/
import Derived.Test.YtophhppklaofaaaDoorOpenSl
import Derived.Test.YtophhppklaofaaaDoorM16
section
namespace Go.Proofs.YtophhppklaofaaaDoor
open Go.ChangeShapes Go.WideShapes Go.ChangeAt Go.RowKit
set_option linter.unusedVariables false
set_option linter.unusedSimpArgs false
section
variable {H : Type} {enc : TypeId × Value → H} {w : World} {base : Nat}
end
end Go.Proofs.YtophhppklaofaaaDoor
end

section
/- The laws ShaTells, ShaLess. -/
namespace Go.Proofs.YtophhppklaofaaaDoor
open Go.RowKit Sha
set_option linter.unusedVariables false
set_option linter.unusedSimpArgs false
namespace Vx
def tellsPre (gg sz n : Nat) (get : Nat → List CV) (ty one m : Nat) (gets : Nat → List CV) : Prop := KsAt gg sz n get ∧ ty = 9 ∧ one = 1 ∧ StrsAt m gets ∧ m ≤ 9223372036854775807
def sTells : SpecF
  | [.c (.row 1)], [.glob gg sz n get, .elems ty one m gets] => some (tellsPre gg sz n get ty one m gets, .c .tt, [.dead, .dead])
  | _, _ => none

set_option maxRecDepth 100000 in
set_option maxHeartbeats 8000000 in
theorem tellsP : Fn Tryd.prog 4 [0] [(9, 1)] sTells := by
  have hC : CtsOk Tryd.prog [(16, appFn [0] [] sFirst2), (18, appFn [] [(9, 1)] sLightT), (17, appFn [0] [(9, 1)] sSum), (20, appFn [] [(9, 1)] sJoined), (19, appPure sRSum), (21, appPure sText), (22, appPure sText), (23, appPure sHex), (24, appPure sRHex)] := CtsOk.cons (Fn.ct firstP) <| CtsOk.cons (Fn.ct lightTP) <| CtsOk.cons (Fn.ct sumP) <| CtsOk.cons (Fn.ct joinedP) <| CtsOk.cons (Pure.ct rsumP) <| CtsOk.cons (Pure.ct textP) <| CtsOk.cons (Pure.ct rtextP) <| CtsOk.cons (Pure.ct hexP) <| CtsOk.cons (Pure.ct rhexP) <| CtsOk.nil _
  refine Fn.of (E := tbC) [0] 0 [(6, [(0, true), (1, true), (2, true), (3, true), (4, true), (6, true), (5, false), (7, false), (8, true), (9, true), (10, true), (11, true), (13, true), (12, false), (14, false), (15, false), (16, true), (17, true), (18, true)])] tbC_ok hC (by kernel_rfl) Tryd.func4 rfl rfl rfl (by kernel_rfl) (by kernel_rfl) 2 5 1 ?_ ?_
  · intro args h pre r h' hs
    unfold sTells at hs
    split at hs
    · cases hs; exact ⟨rfl, rfl, Nat.le_of_ble_eq_true rfl⟩
    · cases hs
  · intro args h pre r h' hs hp
    unfold sTells at hs
    split at hs
    rotate_left
    · cases hs
    rename_i gg sz n get ty one m gets
    cases hs
    obtain ⟨hK, rfl, rfl, hst, hm⟩ := hp
    refine ⟨[.glob 0 1 64 (fun i => [.int .u32 (kOf i)]), .elems 9 1 m gets], ⟨hK.same.1, ⟨rfl, rfl, rfl, fun _ _ => rfl⟩, trivial⟩, ?_⟩
    clear hK
    unfold sSum sFirst2 sLightT sJoined sRSum sText sHex sRHex
    generalize hg0 : sumPre = g0
    generalize hg1 : KsAt = g1
    generalize hg2 : joinG = g2
    generalize hg3 : cutC = g3
    generalize hg4 : sumI = g4
    generalize hg5 : kOf = g5
    generalize hg6 : HashC = g6
    generalize hg7 : hexL = g7
    generalize hg8 : u8s = g8
    generalize hg9 : (List.length : List UInt8 → Nat) = g9
    generalize hg10 : lightT = g10
    generalize hg11 : lightPre = g11
    generalize hg12 : joinedPre = g12
    generalize hg13 : rsumPre = g13
    generalize hg14 : rhexPre = g14
    generalize hg15 : StrsAt = g15
    generalize hA : Arith.std = A
    cbv
    subst hA hg0 hg1 hg2 hg3 hg4 hg5 hg6 hg7 hg8 hg9 hg10 hg11 hg12 hg13 hg14 hg15
    refine Need.mk ksAt_self fun _ => ?_
    refine Need.mk ⟨rfl, rfl, hst, hm, by decide, by decide, by decide, by decide⟩ fun _ => ?_
    refine Ife.mk (fun _ => Need.mk ksAt_self fun _ => by exact ⟨[0, 1], ⟨rfl, by repeat' (first | exact trivial | exact rfl | apply And.intro), by decide, rfl, by repeat' (first | exact trivial | exact rfl | apply And.intro)⟩⟩) (fun hl => ?_)
    have hl : lightT m gets 8 600 = true := by
      cases h : lightT m gets 8 600 with
      | true => rfl
      | false => rw [h] at hl; cases hl
    obtain ⟨hl1, hl2, hl3⟩ := lightT_iff.1 hl
    refine Need.mk ⟨ksAt_self, rfl, rfl, hst, by omega, by omega⟩ fun _ => ?_
    refine Need.mk ⟨rfl, rfl, hst, by omega, by omega⟩ fun _ => ?_
    refine Need.mk (by show (joinG m gets).length ≤ 140737488350000; omega) fun _ => ?_
    generalize joinG m gets = J
    refine Ife.mk (fun _ => ?_) (fun hb => absurd ((eqH_self (sumI J)).symm.trans hb) (by decide))
    refine Need.mk (hashC_sum J) fun _ => Need.mk (hashC_sum J) fun _ => ?_
    refine Ife.mk (fun _ => ?_) (fun hb => absurd ((show decide (u8s (hashC (sumI J)) = u8s (hashC (sumI J))) = true from by simp).symm.trans hb) (by decide))
    refine Need.mk (hashC_sum J) fun _ => Need.mk (hashC_sum J) fun _ => Need.mk (by show (hashB (sumI J)).length ≤ 1000000; rw [hashB_len]; omega) fun _ => ?_
    exact ⟨[0, 1], ⟨rfl, (show decide (hexL (u8s (hashC (sumI J))) = hexL (u8s (hashC (sumI J)))) = true from by simp), by decide, rfl, by repeat' (first | exact trivial | exact rfl | apply And.intro)⟩⟩

/-! ### The order -/


end Vx
end Go.Proofs.YtophhppklaofaaaDoor
end

section
/- A slice that comes in is put beside what is held already. -/
namespace Go.Proofs.YtophhppklaofaaaDoor.Vx
open Go.RowKit
set_option linter.unusedVariables false
set_option linter.unusedSimpArgs false
theorem Rel.addView {w : World} {ρ : List Pl} {h : List Ent} (r : Rel w (Gs.all []) ρ h w) {sz : Nat} {v : View} {q0 : Pl} (ty : TypeId) (g : Good w sz v q0) : Rel w (Gs.all []) (ρ ++ [q0]) (h ++ [viewE ty sz v]) w := by
  have hpl : ∀ j q, (ρ ++ [q0])[j]? = some q → (j < h.length → ρ[j]? = some q) ∧ (j = h.length → q = q0) := fun j q hq => by
    rcases getElem?_snoc hq with ⟨h1, h2⟩ | ⟨h1, h2⟩
    · exact ⟨fun _ => h2, fun e => by rw [r.len] at h1; omega⟩
    · exact ⟨fun h3 => by rw [r.len] at h1; omega, fun _ => h2⟩
  have hfp : ∀ j b, fp (ρ ++ [q0]) (h ++ [viewE ty sz v]) j = some b → fp ρ h j = some b := fun j b hf => by
    obtain ⟨x, q, hx, hq, hb⟩ := fp_some hf
    rcases getElem?_snoc hx with ⟨h1, h2⟩ | ⟨h1, rfl⟩
    · rw [fp_mk h2 ((hpl j q hq).1 h1)]; exact hb
    · cases hb
  refine ⟨by simp [r.len], fun j x q hx hq => ?_, fun j b hf => r.own j b (hfp j b hf), fun i j b hi hj => r.dis i j b (hfp i b hi) (hfp j b hj), r.kept, fun j x q hx hq => ?_, r.os, r.tape, r.output, r.size⟩
  · rcases getElem?_snoc hx with ⟨h1, h2⟩ | ⟨h1, rfl⟩
    · exact Ent.ok_app (r.ok j x q h2 ((hpl j q hq).1 h1)) _
    · rw [(hpl j q hq).2 h1]
      exact ⟨g.sl, g.get⟩
  · rcases getElem?_snoc hx with ⟨g1, g2⟩ | ⟨g1, rfl⟩
    · exact Ent.dat_mono (r.dat j x q g2 ((hpl j q hq).1 g1)) (r.datStep (Nat.le_refl _) (fun i b hf => Or.inl ⟨i, hfp i b hf⟩) fun _ _ _ _ => rfl) fun _ _ => rfl
    · rw [(hpl j q hq).2 g1]
      exact fun hn => Or.inl ⟨g.lt hn, by simp, trivial⟩
end Go.Proofs.YtophhppklaofaaaDoor.Vx
end

section
/- The laws ShaTells, ShaLess, from a world in which the sums' words stand. -/
namespace Go.Proofs.YtophhppklaofaaaDoor
open Go.RowKit
set_option linter.unusedVariables false
set_option linter.unusedSimpArgs false
theorem shaTellsWalk (w : World) (hk : ∀ i, i < 64 → w.cell? ⟨0, i, none⟩ = some (.int .u32 (Sha.kOf i))) (a : Option Addr) (cap : Nat) (ls : List (List UInt8)) (hs : SlIn w a 1 cap (ls.map fun l => [.string ⟨l.toArray⟩])) :
    Calls Tryd.prog 4 #[.slice a ls.length cap] w fun e w' => e = .returned (.bool true) ∧ Below w.heap.size w w' := by
  obtain ⟨p, hp, g⟩ := hs.good (get := fun i => [.str (ls.getD i [])]) (fun i hi => by
    have hi' : i < ls.length := by simpa using hi
    simp [Vx.IsL, Vx.CV.den, hi', Vx.one])
  have hm := hs.max
  simp only [List.length_map] at hp g hm
  rw [← hp]
  refine Calls.mono (Vx.tellsP.run [.c (.row 1)] [.glob 0 1 64 (fun i => [.int .u32 (Sha.kOf i)]), .elems 9 1 ls.length (fun i => [.str (ls.getD i [])])] _ _ _ rfl
    ⟨Vx.ksAt_self, rfl, rfl, fun i hi => ⟨_, rfl⟩, Nat.le_trans hm (by decide)⟩ [⟨0, undef, 0⟩, p] w _ (Vx.Rel.addView (Vx.relGlob hk) 9 g) ⟨_, _, rfl, (by obtain ⟨a', cap', e, _⟩ := g.sl; simp [Vx.SV.is, Vx.CV.den, e, Vx.one] : Vx.SV.is [⟨0, undef, 0⟩, p] (.c (.row 1)) p.v), rfl⟩) fun e W' he => ?_
  obtain ⟨u, ρ', rfl, hu, hr⟩ := he
  obtain rfl : .bool true = u := Option.some.inj hu
  exact ⟨rfl, Vx.Rel.toBelow hr⟩
end Go.Proofs.YtophhppklaofaaaDoor
end
