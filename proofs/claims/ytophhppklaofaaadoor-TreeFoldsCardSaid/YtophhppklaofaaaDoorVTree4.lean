/- The law TreeGrows, by the walker. -/
import Derived.Test.YtophhppklaofaaaDoorVTree3
import Derived.Test.YtophhppklaofaaaDoorVRo
import Derived.Test.YtophhppklaofaaaDoorOpenHash
namespace Go.Proofs.YtophhppklaofaaaDoor.Vx
open Go.RowKit Sha
set_option linter.unusedVariables false
set_option linter.unusedSimpArgs false
def growsPre (gg sz n : Nat) (get : Nat → List CV) (ty one m : Nat) (gets : Nat → List CV) : Prop := KsAt gg sz n get ∧ ty = 24 ∧ one = 32 ∧ HashesAt m gets ∧ m ≤ 9223372036854775807
attribute [local cbv_opaque] hf hOf topG topPre0 HashesAt sumPre KsAt joinG cutC sumI kOf HashC u8s nodeF nodePre
def sGrows : SpecF
  | [.c (.row 1)], [.glob gg sz n get, .elems ty one m gets] => some (growsPre gg sz n get ty one m gets, .c .tt, [.dead, .dead])
  | _, _ => none

set_option maxRecDepth 100000 in
set_option maxHeartbeats 8000000 in
theorem growsP : Fn Tryd.prog 13 [0] [(24, 32)] sGrows := by
  have hC : CtsOk Tryd.prog [(52, appFn [0] [] sFirst6), (53, appPure sHalf), (55, appFn [0] [(24, 32)] sTop), (56, appFn [0] [] sNode)] := CtsOk.cons (Fn.ct first6P) <| CtsOk.cons (Pure.ct halfP) <| CtsOk.cons (Fn.ct topP) <| CtsOk.cons (Fn.ct nodeP) <| CtsOk.nil _
  refine Fn.of (E := tbH) [0] 0 [(8, [(0, true), (2, true), (3, true), (4, true), (6, true), (7, true), (8, true), (1, false), (5, false), (9, false), (10, false), (11, true), (12, true), (13, true), (14, true), (16, true), (17, true), (18, true), (15, false), (19, true), (20, true), (21, true), (23, true), (22, false), (24, true), (25, true), (26, true)])] tbH_ok hC (by kernel_rfl) Tryd.func13 rfl rfl rfl (by kernel_rfl) (by kernel_rfl) 2 5 1 ?_ ?_
  · intro args h pre r h' hs
    unfold sGrows at hs
    split at hs
    · cases hs; exact ⟨rfl, rfl, Nat.le_of_ble_eq_true rfl⟩
    · cases hs
  · intro args h pre r h' hs hp
    unfold sGrows at hs
    split at hs
    rotate_left
    · cases hs
    rename_i gg sz n get ty one m gets
    cases hs
    obtain ⟨hK, rfl, rfl, hst, hm⟩ := hp
    refine ⟨[.glob 0 1 64 (fun i => [.int .u32 (kOf i)]), .elems 24 32 m (fun i => hashC (hOf (gets i)))], ⟨hK.same.1, hst.same.1, trivial⟩, ?_⟩
    clear hK
    unfold sFirst6 sTop sNode sHalf
    generalize hA : Arith.std = A
    set_option cbv.maxSteps 3000000 in cbv
    subst hA
    refine Need.mk ksAt_self fun _ => ?_
    refine Ife.mk (fun _ => Need.mk ksAt_self fun _ => by exact ⟨[0, 1], ⟨rfl, by repeat' (first | exact trivial | exact rfl | apply And.intro), by decide, rfl, by repeat' (first | exact trivial | exact rfl | apply And.intro)⟩⟩) (fun h1 => ?_)
    refine Ife.mk (fun _ => Need.mk ksAt_self fun _ => by exact ⟨[0, 1], ⟨rfl, by repeat' (first | exact trivial | exact rfl | apply And.intro), by decide, rfl, by repeat' (first | exact trivial | exact rfl | apply And.intro)⟩⟩) (fun h2 => ?_)
    have h1 : ¬ (m : Int) < 2 := of_decide_eq_false (p := (m : Int) < 2) h1
    have h2 : ¬ (40 : Int) < (m : Int) := of_decide_eq_false (p := (40 : Int) < (m : Int)) h2
    have hh := hf_lt (n := (m : Int)) (by omega) (by omega)
    have hm : m ≤ 1073741824 := by omega
    refine Need.mk trivial fun _ => ?_
    refine Ife.mk (fun hb => absurd (of_decide_eq_true (p := hf (m : Int) < 1) hb) (by omega)) (fun _ => ?_)
    refine Ife.mk (fun hb => absurd (of_decide_eq_true (p := (m : Int) ≤ hf (m : Int)) hb) (by omega)) (fun _ => ?_)
    have e1 : topG (fun i => hashC (hOf (gets (0 + i)))) (hf (m : Int) - 0).toNat = topR (fun i => hOf (gets i)) 0 (hf (m : Int)).toNat := by
      rw [show (hf (m : Int) - 0).toNat = (hf (m : Int)).toNat by omega]
      exact topG_cut hst 0 _ (by omega)
    have e2 : topG (fun i => hashC (hOf (gets ((hf (m : Int)).toNat + i)))) ((m : Int) - hf (m : Int)).toNat = topR (fun i => hOf (gets i)) (hf (m : Int)).toNat (m - (hf (m : Int)).toNat) := by
      rw [show ((m : Int) - hf (m : Int)).toNat = m - (hf (m : Int)).toNat by omega]
      exact topG_cut hst _ _ (by omega)
    have e3 : topG (fun i => hashC (hOf (gets i))) m = topG gets m := by
      unfold topG
      exact topR_congr m 0 fun i _ hi => hOf_idem (hst i (by omega))
    have q1 : eqH (topG (fun i => hashC (hOf (gets i))) m) (nodeF (u8s (hashC (topG (fun i => hashC (hOf (gets (0 + i)))) (hf (m : Int) - 0).toNat))) (u8s (hashC (topG (fun i => hashC (hOf (gets ((hf (m : Int)).toNat + i)))) ((m : Int) - hf (m : Int)).toNat)))) = true := by
      rw [e1, e2, e3, topG_two (by omega) hm, u8s_hash, u8s_hash]
      exact eqH_self _
    have q2 : eqH (topG (fun i => hashC (hOf (gets (0 + i)))) ((1 : Int) - 0).toNat) (hOf (gets 0)) = true := by
      rw [show ((1 : Int) - 0).toNat = 1 from rfl, topG_one]
      rw [show hOf (hashC (hOf (gets (0 + 0)))) = hOf (gets 0) from hOf_idem (hst 0 (by omega))]
      exact eqH_self _
    have q3 : eqH (topG (fun _ => []) 0) (fun _ => 0) = true := by rw [topG_zero]; exact eqH_self _
    have t1 : topPre0 0 1 64 (fun i => [.int .u32 (kOf i)]) 24 32 ((1 : Int) - 0).toNat (fun i => hashC (hOf (gets (0 + i)))) := ⟨ksAt_self, rfl, rfl, hst.cut 0 _ (by show 0 + 1 ≤ m; omega), by decide⟩
    have t0 : topPre0 0 1 64 (fun i => [.int .u32 (kOf i)]) 24 32 0 (fun _ => []) := ⟨ksAt_self, rfl, rfl, fun i hi => absurd hi (Nat.not_lt_zero _), Nat.zero_le _⟩
    have tm : topPre0 0 1 64 (fun i => [.int .u32 (kOf i)]) 24 32 m (fun i => hashC (hOf (gets i))) := ⟨ksAt_self, rfl, rfl, fun i hi => ⟨_, rfl, hOf_range (hst i hi)⟩, hm⟩
    refine Need.mk (by show (0 : Int) ≤ 0 ∧ 0 ≤ hf (m : Int) ∧ hf (m : Int) ≤ (m : Int); omega) fun _ => Need.mk (by show 0 ≤ hf (m : Int) ∧ hf (m : Int) ≤ (m : Int) ∧ (m : Int) ≤ (m : Int); omega) fun _ => Need.mk tm fun _ => ?_
    refine Need.mk ⟨ksAt_self, rfl, rfl, hst.cut 0 (hf (m : Int) - 0).toNat (by omega), (by show (hf (m : Int) - 0).toNat ≤ 1073741824; omega)⟩ fun _ => ?_
    refine Need.mk ⟨ksAt_self, rfl, rfl, hst.cut (hf (m : Int)).toNat ((m : Int) - hf (m : Int)).toNat (by omega), (by show ((m : Int) - hf (m : Int)).toNat ≤ 1073741824; omega)⟩ fun _ => ?_
    refine Need.mk ⟨ksAt_self, (show HashC (hashC (topG (fun i => hashC (hOf (gets (0 + i)))) (hf (m : Int) - 0).toNat)) from by rw [e1]; exact topG_hash hst 0 _ (by omega)), (show HashC (hashC (topG (fun i => hashC (hOf (gets ((hf (m : Int)).toNat + i)))) ((m : Int) - hf (m : Int)).toNat)) from by rw [e2]; exact topG_hash hst _ _ (by omega))⟩ fun _ => ?_
    refine Ife.mk (fun _ => ?_) (fun hb => absurd (q1.symm.trans hb) (by decide))
    repeat (first
      | refine Need.mk (by show (0 : Int) ≤ 0 ∧ (0 : Int) ≤ 1 ∧ (1 : Int) ≤ (m : Int); omega) fun _ => ?_
      | refine Need.mk (by show (0 : Int) ≤ 0 ∧ (0 : Int) < (m : Int); omega) fun _ => ?_
      | refine Need.mk (by show (0 : Int).toNat < m; omega) fun _ => ?_
      | refine Need.mk t1 fun _ => ?_)
    refine Ife.mk (fun _ => ?_) (fun hb => absurd (q2.symm.trans hb) (by decide))
    refine Need.mk t0 fun _ => ?_
    exact ⟨[0, 1], ⟨rfl, q3, by decide, rfl, by repeat' (first | exact trivial | exact rfl | apply And.intro)⟩⟩

end Go.Proofs.YtophhppklaofaaaDoor.Vx
namespace Go.Proofs.YtophhppklaofaaaDoor
open Go.ChangeShapes Go.WideShapes Go.ChangeAt Go.RowKit
set_option linter.unusedVariables false
set_option linter.unusedSimpArgs false
section
variable {H : Type} {enc : TypeId × Value → H} {w : World} {base : Nat}
set_option maxRecDepth 100000 in
theorem open_Hashes {v : Value} {d : DataW H} {p : List MemPlace} (hv : Value.okWide Tryd.prog w .any base 71 v) (h : DataW.Trod enc Tryd.prog w 0 (fun _ => true) true 71 v d p) :
    ∃ (a : Option Addr) (cap : Nat) (fs : List (Nat → Int)), v = .slice a fs.length cap ∧ SlIn w a 32 cap (fs.map hashV) ∧ ∀ f ∈ fs, ∀ i, 0 ≤ f i ∧ f i < 256 := by
  obtain ⟨a, cap, xs, rfl, hs, hx⟩ := open_slice (sz := 32) (P := fun l => ∃ f : Nat → Int, l = hashV f ∧ ∀ i, 0 ≤ f i ∧ f i < 256) (by decide) Tryd.underlying71 cellsG_Hash (fun fuel l x hl => trod_Hash hl) hv h
  obtain ⟨g, hg⟩ : ∃ g : Nat → Nat → Int, ∀ i (hi : i < xs.length), xs[i] = hashV (g i) ∧ ∀ j, 0 ≤ g i j ∧ g i j < 256 := by
    refine ⟨fun i => if h : i < xs.length then Classical.choose (hx xs[i] (List.getElem_mem h)).2 else fun _ => 0, fun i hi => ?_⟩
    dsimp only
    rw [dif_pos hi]
    exact Classical.choose_spec (hx xs[i] (List.getElem_mem hi)).2
  have e : xs = ((List.range xs.length).map g).map hashV := by
    apply List.ext_getElem
    · simp
    · intro i h1 h2
      rw [(hg i h1).1]
      simp
  refine ⟨a, cap, (List.range xs.length).map g, by simp, ?_, fun f hf => ?_⟩
  · rw [← e]
    exact hs
  · obtain ⟨i, hi, rfl⟩ := List.mem_map.1 hf
    exact (hg i (List.mem_range.1 hi)).2
end
theorem hashes_good {w : World} {a : Option Addr} {cap : Nat} {fs : List (Nat → Int)} (hs : SlIn w a 32 cap (fs.map hashV)) : ∃ p : Vx.Pl, p.v = .slice a fs.length cap ∧ Vx.Good w 32 (fs.length, fun i => Vx.hashC (fs.getD i fun _ => 0)) p := by
  obtain ⟨p, hp, g⟩ := hs.good (get := fun i => Vx.hashC (fs.getD i fun _ => 0)) (fun i hi => by
    have hi' : i < fs.length := by simpa using hi
    rw [List.getElem_map, List.getD_eq_getElem?_getD, List.getElem?_eq_getElem hi']
    exact hashC_is _ _)
  simp only [List.length_map] at hp g
  exact ⟨p, hp, g⟩
theorem hashes_at {fs : List (Nat → Int)} (h : ∀ f ∈ fs, ∀ i, 0 ≤ f i ∧ f i < 256) : Vx.HashesAt fs.length (fun i => Vx.hashC (fs.getD i fun _ => 0)) := fun i hi => ⟨_, rfl, by
  rw [List.getD_eq_getElem?_getD, List.getElem?_eq_getElem hi]
  exact h _ (List.getElem_mem hi)⟩
theorem treeGrowsWalk (w : World) (hk : ∀ i, i < 64 → w.cell? ⟨0, i, none⟩ = some (.int .u32 (Sha.kOf i))) (a : Option Addr) (cap : Nat) (fs : List (Nat → Int)) (hs : SlIn w a 32 cap (fs.map hashV)) (hf : ∀ f ∈ fs, ∀ i, 0 ≤ f i ∧ f i < 256) :
    Calls Tryd.prog 13 #[.slice a fs.length cap] w fun e w' => e = .returned (.bool true) ∧ Below w.heap.size w w' := by
  obtain ⟨p, hp, g⟩ := hashes_good hs
  have hm := hs.max
  simp only [List.length_map] at hm
  rw [← hp]
  refine Calls.mono (Vx.growsP.run [.c (.row 1)] [.glob 0 1 64 (fun i => [.int .u32 (Sha.kOf i)]), .elems 24 32 fs.length (fun i => Vx.hashC (fs.getD i fun _ => 0))] _ _ _ rfl
    ⟨Vx.ksAt_self, rfl, rfl, hashes_at hf, Nat.le_trans hm (by decide)⟩ [⟨0, undef, 0⟩, p] w _ (Vx.Rel.addView (Vx.relGlob hk) 24 g) ⟨_, _, rfl, (by obtain ⟨a', cap', e, _⟩ := g.sl; simp [Vx.SV.is, Vx.CV.den, e, Vx.one] : Vx.SV.is [⟨0, undef, 0⟩, p] (.c (.row 1)) p.v), rfl⟩) fun e W' he => ?_
  obtain ⟨u, ρ', rfl, hu, hr⟩ := he
  obtain rfl : .bool true = u := Option.some.inj hu
  exact ⟨rfl, Vx.Rel.toBelow hr⟩
end Go.Proofs.YtophhppklaofaaaDoor
