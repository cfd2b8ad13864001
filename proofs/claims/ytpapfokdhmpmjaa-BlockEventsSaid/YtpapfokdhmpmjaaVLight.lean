/- LightEvents, by the walker. -/
import Derived.Test.YtpapfokdhmpmjaaVxSl
import Derived.Test.YtpapfokdhmpmjaaVEv
namespace Go.Proofs.Ytpapfokdhmpmjaa
set_option linter.unusedVariables false
set_option linter.unusedSimpArgs false

def lightEv (x : Ev) : Bool := lightPkt x.pk && decide (x.ack.length ≤ 100) && decide (x.ep.length ≤ 60)

namespace Vx
def evOf : List CV → Option Ev
  | [.int .i64 k, .str sp, .int .i64 sc, .str dp, .int .i64 dc, .int .i64 sq, .str da, .int .i64 th, .int .i64 ta, .str ak, .str ep, .int .i64 ec, .int .i64 ht] => some ⟨k, ⟨sp, sc, dp, dc, sq, da, th, ta⟩, ak, ep, ec, ht⟩
  | _ => none
theorem evOf_spec {cs : List CV} {x : Ev} (h : evOf cs = some x) : cs = evC x := by
  unfold evOf at h
  split at h
  · cases h; rfl
  · cases h
/-- The first n elements are events. -/
def EvsAt (n : Nat) (get : Nat → List CV) : Prop := ∀ i, i < n → ∃ x, evOf (get i) = some x ∧ x.fits
def lightAt (get : Nat → List CV) (i : Nat) : Bool := match evOf (get i) with
  | some x => lightEv x
  | none => false
def lightEvs (n : Nat) (get : Nat → List CV) : Bool := decide (n ≤ 60) && (List.range n).all (lightAt get)

structure LX (xs : Nat → Ev) (n : Nat) where
  i : Int
  h0 : 0 ≤ i
  h1 : i ≤ (n : Int)
  h2 : ∀ j : Nat, (j : Int) < i → lightEv (xs j) = true

def sLightEvs (n : Nat) (get : Nat → List CV) : Option (Prop × SV) := some (EvsAt n get, .c (.bool (lightEvs n get)))

def sLightPk : List SV → Option (Prop × SV)
  | [.agg [.str sp, .int .i64 sc, .str dp, .int .i64 dc, .int .i64 sq, .str da, .int .i64 th, .int .i64 ta]] => some (Pkt.fits ⟨sp, sc, dp, dc, sq, da, th, ta⟩, .c (.bool (lightPkt ⟨sp, sc, dp, dc, sq, da, th, ta⟩)))
  | _ => none

theorem lightPkP : Pure Try.prog 29 sLightPk := by
  refine ⟨by kernel_rfl, fun args pre r h hp us hs W => ?_⟩
  unfold sLightPk at h
  split at h
  rotate_left
  · cases h
  rename_i sp sc dp dc sq da th ta
  cases h
  obtain ⟨_, _, rfl, ⟨v0, a0, rfl⟩, b0⟩ := hs
  obtain rfl := a0.unique (show IsL [] _ [.string ⟨(sp).toArray⟩, .int .i64 sc, .string ⟨(dp).toArray⟩, .int .i64 dc, .int .i64 sq, .string ⟨(da).toArray⟩, .int .i64 th, .int .i64 ta] from rfl)
  cases b0
  refine Calls.mono (lightPacket ⟨sp, sc, dp, dc, sq, da, th, ta⟩ W hp) fun e W' he => ?_
  obtain ⟨rfl, hb⟩ := he
  exact ⟨_, rfl, rfl, hb⟩

set_option maxRecDepth 100000 in
set_option maxHeartbeats 1000000 in
theorem lightEvsP : Reads Try.prog 11 13 sLightEvs := by
  have hC : CtsOk Try.prog [(29, appPure sLightPk)] := CtsOk.cons (Pure.ct lightPkP) <| CtsOk.nil _
  refine Reads.of (E := tb) [] 0 [] tb_ok hC (by kernel_rfl) Try.func11 rfl rfl rfl (by kernel_rfl) (by kernel_rfl) 27 ?_ ?_
  · intro m get pre r h
    cases h; rfl
  · intro n get pre r h hp
    cases h
    obtain ⟨xs, hxs⟩ : ∃ xs : Nat → Ev, ∀ i, i < n → evOf (get i) = some (xs i) ∧ (xs i).fits := by
      refine ⟨fun i => (evOf (get i)).getD zeroEv, fun i hi => ?_⟩
      obtain ⟨x, h1, h2⟩ := hp i hi
      simp only [h1, Option.getD_some]
      exact ⟨trivial, h2⟩
    have hla : ∀ i, i < n → lightAt get i = lightEv (xs i) := fun i hi => by
      unfold lightAt
      rw [(hxs i hi).1]
    refine ⟨fun i => evC (xs i), fun i hi => evOf_spec (hxs i hi).1, ?_⟩
    generalize hg0 : lightEvs = g0
    unfold sLightPk
    generalize hg1 : lightPkt = g1
    generalize hg2 : Pkt.fits = g2
    generalize hL : lft Try.prog _ = L
    generalize hA : Arith.std = A
    cbv
    subst hA hL hg0 hg1 hg2
    refine Ife.mk (fun h => ?_) (fun h => ?_)
    · have h' : (60 : Int) < n := by simpa [Arith.std] using h
      simp [lightEvs]
      omega
    have hle : (n : Int) ≤ 60 := by
      have : ¬ (60 : Int) < n := by simpa [Arith.std] using h
      omega
    show Runs Try.prog 1 (.loop _) _ _
    refine loop_rule (N := env (lft Try.prog 1) 0 .std tb [(29, appPure sLightPk)] []) rfl tb_ok hC (fun c st K _ h => h) (by kernel_rfl) [] (X := LX xs n)
      (S := fun x => ⟨[.c (.row 0), .any, .any, .c (.int .i64 x.i)] ++ List.replicate 35 .any, [.elems 27 13 n (fun i => evC (xs i))]⟩) (μ := fun x => n - x.i.toNat) ⟨0, by omega, by omega, fun j hj => by omega⟩ (by kernel_rfl) (fun x => Nat.le_refl _) ?_ ?_
    · cbv
    rintro ⟨i, hi0, hin, hall⟩
    generalize hg0 : lightEvs = g0
    unfold sLightPk
    generalize hg1 : lightPkt = g1
    generalize hg2 : Pkt.fits = g2
    generalize hg3 : (List.length : List UInt8 → Nat) = g3
    generalize hL : lft Try.prog _ = L
    generalize hA : Arith.std = A
    cbv
    subst hA hL hg0 hg1 hg2 hg3
    replace hin : i ≤ (n : Int) := hin
    replace hall : ∀ j : Nat, (j : Int) < i → lightEv (xs j) = true := hall
    have key : ∀ j : Nat, j < n → lightEv (xs j) = false → lightEvs n get = false := fun j hj hb => by
      unfold lightEvs
      rw [Bool.and_eq_false_iff]
      right
      rw [List.all_eq_false]
      exact ⟨j, by simpa using hj, by rw [hla j hj, hb]; simp⟩
    have hall' : i = (n : Int) → lightEvs n get = true := fun e => by
      unfold lightEvs
      rw [Bool.and_eq_true, List.all_eq_true]
      refine ⟨by simp; omega, fun j hj => ?_⟩
      have hj' : j < n := by simpa using hj
      rw [hla j hj']
      exact hall j (by omega)
    refine Ife.mk (fun h => ?_) (fun h => ?_)
    · have hlt : i < (n : Int) := by simpa [Arith.std] using h
      have hn : i.toNat < n := by omega
      obtain ⟨_, hf⟩ := hxs i.toNat hn
      have hin' : Arith.std.inN i n := ⟨hi0, hlt⟩
      refine ⟨hin', fun _ => ⟨hn, fun _ => ⟨hf.pk, fun _ => ⟨fun h1 => ?_, fun h1 => ⟨hin', fun _ => ⟨hn, fun _ => ⟨fun h2 => ?_, fun h2 => ⟨hin', fun _ => ⟨hn, fun _ => ⟨fun h3 => ?_, fun h3 => ⟨?_, fun _ => ?_⟩⟩⟩⟩⟩⟩⟩⟩⟩⟩⟩
      · have h1' : (!lightPkt (xs i.toNat).pk) = true := h1
        exact key _ hn (by unfold lightEv; simp_all)
      · have h2' : decide ((100 : Int) < (xs i.toNat).ack.length) = true := h2
        exact key _ hn (by unfold lightEv; simp at h2'; simp; omega)
      · have h3' : decide ((60 : Int) < (xs i.toNat).ep.length) = true := h3
        exact key _ hn (by unfold lightEv; simp at h3'; simp; omega)
      · show -9223372036854775808 ≤ i + 1 ∧ i + 1 ≤ 9223372036854775807
        omega
      · have h1' : (!lightPkt (xs i.toNat).pk) = false := h1
        have h2' : decide ((100 : Int) < (xs i.toNat).ack.length) = false := h2
        have h3' : decide ((60 : Int) < (xs i.toNat).ep.length) = false := h3
        refine ⟨⟨i + 1, by omega, by omega, fun j hj => ?_⟩, by show n - (i + 1).toNat < n - i.toNat; omega, ?_⟩
        · by_cases hji : (j : Int) < i
          · exact hall j hji
          · obtain rfl : j = i.toNat := by omega
            simp at h1' h2' h3'
            unfold lightEv
            simp
            exact ⟨⟨h1', by omega⟩, by omega⟩
        · refine And.intro ?_ ?_ <;> repeat' (first | exact trivial | exact rfl | apply And.intro)
    · have hnlt : ¬ i < (n : Int) := by simpa [Arith.std] using h
      exact hall' (by omega)

end Vx
end Go.Proofs.Ytpapfokdhmpmjaa
