/- The law TreeFolds, by the walker. -/
import Derived.Test.YtophhppklaofaaaDoorVTreeP
namespace Go.Proofs.YtophhppklaofaaaDoor.Vx
open Go.RowKit Sha
set_option linter.unusedVariables false
set_option linter.unusedSimpArgs false
def foldsPre (gg sz n : Nat) (get : Nat → List CV) (ty one m : Nat) (gets : Nat → List CV) (x : List CV) : Prop := KsAt gg sz n get ∧ ty = 24 ∧ one = 32 ∧ HashesAt m gets ∧ m ≤ 9223372036854775807 ∧ HashC x
theorem hashB_hOf (g : Nat → Int) : hashB (hOf (hashC g)) = hashB g := by
  unfold hashB
  refine List.map_congr_left fun j hj => ?_
  rw [hOf_at, if_pos (List.mem_range.1 hj)]
theorem foldR_congrB {W W' : Nat → Nat → Int} (leaf : Nat → Int) : ∀ (k : Nat) (n i : Int), (∀ j, j < k → hashB (W j) = hashB (W' j)) → foldR W leaf k n i = foldR W' leaf k n i
  | 0, _, _, _ => rfl
  | k + 1, n, i, h => by
    unfold foldR
    rw [foldR_congrB leaf k (hf n) i (fun j hj => h j (by omega)), foldR_congrB leaf k (n - hf n) (i - hf n) (fun j hj => h j (by omega)), h k (by omega)]
theorem way_hashes {h : Nat → Nat → Int} {m : Nat} {i : Int} (hr : ∀ j, 0 ≤ j → j < m → ∀ k, 0 ≤ h j k ∧ h j k < 256) : HashesAt (wayR h 0 m i).length (hashesG (wayR h 0 m i)) := by
  have key : ∀ (n lo : Nat) (i : Int), lo + n ≤ m → ∀ f ∈ wayR h lo n i, ∀ k, 0 ≤ f k ∧ f k < 256 := by
    intro n
    induction n using Nat.strongRecOn with
    | ind n ih =>
      intro lo i hm f hf_
      by_cases hc : 1 < n ∧ n ≤ 1073741824 ∧ 0 ≤ i ∧ i < (n : Int)
      · have hh := hf_lt (n := (n : Int)) (by omega) (by omega)
        by_cases hi : i < hf n
        · rw [way_lo h lo i n hc hi] at hf_
          rcases List.mem_append.1 hf_ with h1 | h1
          · exact ih (hf n).toNat (by omega) lo i (by omega) f h1
          · rw [List.mem_singleton.1 h1]
            exact topR_range _ _ fun j a b => hr j (by omega) (by omega)
        · rw [way_hi h lo i n hc hi] at hf_
          rcases List.mem_append.1 hf_ with h1 | h1
          · exact ih (n - (hf n).toNat) (by omega) (lo + (hf n).toNat) (i - hf n) (by omega) f h1
          · rw [List.mem_singleton.1 h1]
            exact topR_range _ _ fun j a b => hr j (by omega) (by omega)
      · rw [way_one h lo i n hc] at hf_
        cases hf_
  intro j hj
  refine ⟨_, rfl, ?_⟩
  rw [List.getD_eq_getElem?_getD, List.getElem?_eq_getElem hj]
  exact key m 0 i (by omega) _ (List.getElem_mem hj)
theorem setMany_pre : ∀ (xs pre ys : List CV), xs.length = ys.length → setMany (pre ++ ys) pre.length xs = pre ++ xs
  | [], pre, [], _ => rfl
  | x :: xs, pre, y :: ys, h => by
    have e : (pre ++ y :: ys).set pre.length x = (pre ++ [x]) ++ ys := by simp
    have ih := setMany_pre xs (pre ++ [x]) ys (by simpa using h)
    rw [setMany, e, show pre.length + 1 = (pre ++ [x]).length by simp, ih, List.append_assoc]
    rfl
  | [], _, _ :: _, h => by simp at h
  | _ :: _, _, [], h => by simp at h
theorem setMany_all (xs ys : List CV) (h : xs.length = ys.length) : setMany ys 0 xs = xs := setMany_pre xs [] ys h
theorem setMany_hash (g f : Nat → Int) : setMany (hashC g) 0 (hashC f) = hashC f := setMany_all _ _ rfl
structure FoldsFacts (m : Nat) (gets : Nat → List CV) (i : Int) (f : Nat → Int) (U : Nat → List CV) : Prop where
  q1 : eqH (fdH (hashesG (wayG (fun i => hashC (hOf (gets i))) m i)) (hashC (hOf (gets i.toNat))) (wayG (fun i => hashC (hOf (gets i))) m i).length m i) (topG (fun i => hashC (hOf (gets i))) m) = true
  q2 : eqH (fdH (hashesG (wayG (fun i => hashC (hOf (gets i))) m i)) (hashC f) (wayG (fun i => hashC (hOf (gets i))) m i).length m i) (topG U m) = true
  cU : HashesAt m U
  eWU : wayG U m i = wayG (fun i => hashC (hOf (gets i))) m i
  lW : ((wayG (fun i => hashC (hOf (gets i))) m i).length : Int) = deep m i
  lW2 : (wayG (fun i => hashC (hOf (gets i))) m i).length ≤ m
  hB : fdB (wayG (fun i => hashC (hOf (gets i))) m i).length m i = true
  cW : HashesAt (wayG (fun i => hashC (hOf (gets i))) m i).length (hashesG (wayG (fun i => hashC (hOf (gets i))) m i))
theorem upG_at (g : Nat → List CV) (i : Nat) (xs : List CV) (hl : (setMany (g i) 0 xs) = xs) (j : Nat) : upG g i 0 xs j = if j = i then xs else g j := by
  by_cases hji : j = i
  · rw [if_pos hji, hji, upG, show i.beq i = true by simp]
    exact hl
  · rw [if_neg hji, upG, show j.beq i = false by rw [Bool.eq_false_iff]; intro h; exact hji (by simpa using h)]
theorem upG_hash (gets : Nat → List CV) (i : Nat) (f : Nat → Int) (m : Nat) : ∀ j, j < m → upG (fun i => hashC (hOf (gets i))) i 0 (hashC f) j = if j = i then hashC f else hashC (hOf (gets j)) := fun j _ => by
  have e : setMany ((fun i => hashC (hOf (gets i))) i) 0 (hashC f) = hashC f := setMany_hash (hOf (gets i)) f
  exact upG_at (fun i => hashC (hOf (gets i))) i (hashC f) e j
theorem foldsFacts {m : Nat} {gets : Nat → List CV} {i : Int} {f : Nat → Int} (hst : HashesAt m gets) (hf_ : ∀ j, 0 ≤ f j ∧ f j < 256) (h0 : 0 ≤ i) (hi : i < (m : Int)) (hm : m ≤ 40) {U : Nat → List CV} (uAt : ∀ j, j < m → U j = if j = i.toNat then hashC f else hashC (hOf (gets j))) : FoldsFacts m gets i f U := by
  have hL : HashC (hashC f) := ⟨_, rfl, hf_⟩
  have cG : HashesAt m (fun i => hashC (hOf (gets i))) := fun j hj => ⟨_, rfl, hOf_range (hst j hj)⟩
  have eW : wayG (fun i => hashC (hOf (gets i))) m i = wayR (fun i => hOf (gets i)) 0 m i := by
    unfold wayG
    exact wayR_congr m 0 i fun j _ hj => hOf_idem (hst j (by omega))
  have lW : ((wayG (fun i => hashC (hOf (gets i))) m i).length : Int) = deep m i := by rw [eW]; exact way_len _ m 0 i (by omega)
  have lW2 : (wayG (fun i => hashC (hOf (gets i))) m i).length ≤ m := by rw [eW]; exact wayR_len _ m 0 i
  have hB : fdB (wayG (fun i => hashC (hOf (gets i))) m i).length m i = true := by
    unfold fdB
    rw [decide_eq_true lW, inN_iff.2 ⟨by omega, by omega, by omega⟩]
    rfl
  have cW : HashesAt (wayG (fun i => hashC (hOf (gets i))) m i).length (hashesG (wayG (fun i => hashC (hOf (gets i))) m i)) := by
    rw [eW]
    exact way_hashes (fun j a b => fun k => hOf_range (hst j (by omega)) k)
  have uH : ∀ j, j < m → hOf (U j) = if j = 0 + i.toNat then hOf (hashC f) else hOf (gets j) := fun j hj => by
    rw [uAt j hj, Nat.zero_add]
    by_cases hji : j = i.toNat
    · rw [if_pos hji, if_pos hji]
    · rw [if_neg hji, if_neg hji, hOf_idem (hst j hj)]
  have cU : HashesAt m U := fun j hj => by
    rw [uAt j hj]
    by_cases hji : j = i.toNat
    · rw [if_pos hji]; exact hL
    · rw [if_neg hji]; exact cG j hj
  have eG : topG (fun i => hashC (hOf (gets i))) m = topR (fun j => hOf (gets j)) 0 m := by
    unfold topG
    exact topR_congr m 0 fun j _ hj => hOf_idem (hst j (by omega))
  have eU : topG U m = topR (fun j => if j = 0 + i.toNat then hOf (hashC f) else hOf (gets j)) 0 m := by
    unfold topG
    exact topR_congr m 0 fun j _ hj => uH j (by omega)
  have eWU : wayG U m i = wayG (fun i => hashC (hOf (gets i))) m i := by
    rw [eW]
    unfold wayG
    refine way_other _ _ m 0 i fun j _ hj hne => ?_
    show hOf (U j) = _
    rw [uH j (by omega), if_neg hne]
  have hF : ∀ leaf : List CV, HashC leaf → fdH (hashesG (wayG (fun i => hashC (hOf (gets i))) m i)) leaf (wayG (fun i => hashC (hOf (gets i))) m i).length m i = topR (fun j => if j = 0 + i.toNat then hOf leaf else hOf (gets j)) 0 m := fun leaf hl => by
    unfold fdH
    rw [hB, if_pos rfl, eW]
    have e := fold_way (fun j => hOf (gets j)) (hOf leaf) m 0 i (by omega) (by omega) (by omega)
    rw [← e]
    unfold foldG
    refine foldR_congrB _ _ _ _ fun j hj => ?_
    exact hashB_hOf _
  refine ⟨?_, ?_, cU, eWU, lW, lW2, hB, cW⟩
  · rw [hF _ (cG i.toNat (by omega)), eG]
    have e : topR (fun j => if j = 0 + i.toNat then hOf (hashC (hOf (gets i.toNat))) else hOf (gets j)) 0 m = topR (fun j => hOf (gets j)) 0 m := topR_congr m 0 fun j _ hj => by
      by_cases hji : j = 0 + i.toNat
      · rw [if_pos hji, hOf_idem (hst i.toNat (by omega)), hji, Nat.zero_add]
      · rw [if_neg hji]
    rw [e]
    exact eqH_self _
  · rw [hF _ hL, eU]
    exact eqH_self _
attribute [local cbv_opaque] hf hOf topG topPre0 HashesAt sumPre KsAt joinG cutC sumI kOf HashC u8s nodeF nodePre wayG wayPre0 hashesG pushG fdB fdH fdPre deep hashesEq hashesPre
def sFolds : SpecF
  | [.c (.row 1), .c (.int .i64 i), .agg x], [.glob gg sz n get, .elems ty one m gets] => some (foldsPre gg sz n get ty one m gets x, .c .tt, [.dead, .dead])
  | _, _ => none

set_option maxRecDepth 100000 in
set_option maxHeartbeats 8000000 in
theorem foldsP : Fn Tryd.prog 14 [0] [(24, 32)] sFolds := by
  have hC : CtsOk Tryd.prog [(52, appFn [0] [] sFirst6), (57, appFn [0] [(24, 32)] sWay), (58, appFn [0] [(24, 32)] sFold), (55, appFn [0] [(24, 32)] sTop), (54, appPure sDeep), (59, appFn [] [(24, 32), (24, 32)] sHashes)] := CtsOk.cons (Fn.ct first6P) <| CtsOk.cons (Fn.ct wayP) <| CtsOk.cons (Fn.ct fdP) <| CtsOk.cons (Fn.ct topP) <| CtsOk.cons (Pure.ct deepP) <| CtsOk.cons (Fn.ct hashesP) <| CtsOk.nil _
  refine Fn.of (E := tbH) [0] 0 [(10, [(0, true), (1, true), (2, true), (3, true), (4, true), (5, true), (6, true), (7, false), (8, true), (9, true), (10, true), (11, true), (12, true), (13, false), (14, true), (15, true), (16, true), (17, true), (18, true), (19, true), (20, true), (21, true), (22, false), (23, true), (24, true), (25, true), (26, true), (27, true), (29, true), (28, false), (30, false), (31, true), (32, true)])] tbH_ok hC (by kernel_rfl) Tryd.func14 rfl rfl rfl (by kernel_rfl) (by kernel_rfl) 2 5 1 ?_ ?_
  · intro args h pre r h' hs
    unfold sFolds at hs
    split at hs
    · cases hs; exact ⟨rfl, rfl, Nat.le_of_ble_eq_true rfl⟩
    · cases hs
  · intro args h pre r h' hs hp
    unfold sFolds at hs
    split at hs
    rotate_left
    · cases hs
    rename_i i x gg sz n get ty one m gets
    cases hs
    obtain ⟨hK, rfl, rfl, hst, hm, ⟨f, rfl, hf_⟩⟩ := hp
    unfold hashC
    refine ⟨[.glob 0 1 64 (fun i => [.int .u32 (kOf i)]), .elems 24 32 m (fun i => hashC (hOf (gets i)))], ⟨hK.same.1, hst.same.1, trivial⟩, ?_⟩
    clear hK
    unfold sFirst6 sTop sWay sFold sHashes sDeep
    generalize hg0 : (List.length : List (Nat → Int) → Nat) = g0
    generalize hA : Arith.std = A
    set_option cbv.maxSteps 5000000 in cbv
    subst hA hg0
    refine Need.mk ksAt_self fun _ => ?_
    refine Ife.mk (fun _ => Need.mk ksAt_self fun _ => by exact ⟨[0, 1], ⟨rfl, by repeat' (first | exact trivial | exact rfl | apply And.intro), by decide, rfl, by repeat' (first | exact trivial | exact rfl | apply And.intro)⟩⟩) (fun h1 => ?_)
    refine Ife.mk (fun _ => Need.mk ksAt_self fun _ => by exact ⟨[0, 1], ⟨rfl, by repeat' (first | exact trivial | exact rfl | apply And.intro), by decide, rfl, by repeat' (first | exact trivial | exact rfl | apply And.intro)⟩⟩) (fun h2 => ?_)
    refine Ife.mk (fun _ => Need.mk ksAt_self fun _ => by exact ⟨[0, 1], ⟨rfl, by repeat' (first | exact trivial | exact rfl | apply And.intro), by decide, rfl, by repeat' (first | exact trivial | exact rfl | apply And.intro)⟩⟩) (fun h3 => ?_)
    have h1 : ¬ (40 : Int) < (m : Int) := of_decide_eq_false (p := (40 : Int) < (m : Int)) h1
    have h2 : ¬ i < 0 := of_decide_eq_false (p := i < 0) h2
    have h3 : ¬ (m : Int) ≤ i := of_decide_eq_false (p := (m : Int) ≤ i) h3
    have hL : HashC (hashC f) := ⟨_, rfl, hf_⟩
    have cG : HashesAt m (fun i => hashC (hOf (gets i))) := fun j hj => ⟨_, rfl, hOf_range (hst j hj)⟩
    obtain ⟨q1, q2, cU, eWU, lW, lW2, hB, cW⟩ := foldsFacts (U := upG (fun i => hashC (hOf (gets i))) i.toNat 0 (hashC f)) hst hf_ (show 0 ≤ i by omega) (show i < (m : Int) by omega) (show m ≤ 40 by omega) (upG_hash gets i.toNat f m)
    have z2 : hashesPre 24 32 (wayG (upG (fun i => hashC (hOf (gets i))) i.toNat 0 (hashC f)) m i).length (hashesG (wayG (upG (fun i => hashC (hOf (gets i))) i.toNat 0 (hashC f)) m i)) 24 32 (wayG (fun i => hashC (hOf (gets i))) m i).length (hashesG (wayG (fun i => hashC (hOf (gets i))) m i)) := by
      rw [eWU]
      exact ⟨rfl, rfl, cW, Nat.le_trans lW2 (by omega), rfl, rfl, cW, Nat.le_trans lW2 (by omega)⟩
    have z3 : hashesEq (wayG (upG (fun i => hashC (hOf (gets i))) i.toNat 0 (hashC f)) m i).length (hashesG (wayG (upG (fun i => hashC (hOf (gets i))) i.toNat 0 (hashC f)) m i)) (wayG (fun i => hashC (hOf (gets i))) m i).length (hashesG (wayG (fun i => hashC (hOf (gets i))) m i)) = true := by
      rw [eWU]
      exact hashesEq_all fun _ _ => eqH_self _
    refine Need.mk ⟨ksAt_self, rfl, rfl, cG, by omega⟩ fun _ => Need.mk (by show 0 ≤ i ∧ i < (m : Int); omega) fun _ => Need.mk (by show i.toNat < m; omega) fun _ => ?_
    refine Need.mk ⟨ksAt_self, rfl, rfl, cW, cG i.toNat (by omega), Nat.le_trans lW2 (by omega)⟩ fun _ => ?_
    refine Need.mk ⟨⟨by show 0 + m ≤ maxLen; unfold maxLen; omega, by show (0 + m) * 32 ≤ 140737488355328; omega⟩, fun j hj => rfl⟩ fun _ => ?_
    refine Need.mk (by show 0 ≤ i ∧ i < (m : Int); omega) fun _ => Need.mk (by show i.toNat < m; omega) fun _ => ?_
    refine Need.mk ⟨ksAt_self, rfl, rfl, cW, hL, Nat.le_trans lW2 (by omega)⟩ fun _ => ?_
    refine Ife.mk (fun _ => ?_) (fun hb => absurd (hB.symm.trans hb) (by decide))
    refine Ife.mk (fun _ => ?_) (fun hb => absurd (hB.symm.trans hb) (by decide))
    refine Need.mk ⟨ksAt_self, rfl, rfl, cG, by omega⟩ fun _ => ?_
    refine Ife.mk (fun _ => ?_) (fun hb => absurd (q1.symm.trans hb) (by decide))
    refine Need.mk ⟨ksAt_self, rfl, rfl, cU, by omega⟩ fun _ => ?_
    refine Ife.mk (fun _ => ?_) (fun hb => absurd (q2.symm.trans hb) (by decide))
    refine Need.mk trivial fun _ => ?_
    refine Ife.mk (fun _ => ?_) (fun hb => absurd ((decide_eq_true lW).symm.trans hb) (by decide))
    refine Need.mk ⟨ksAt_self, rfl, rfl, cU, by omega⟩ fun _ => ?_
    refine Need.mk z2 fun _ => ?_
    exact ⟨[0, 1], ⟨rfl, z3, by decide, rfl, by repeat' (first | exact trivial | exact rfl | apply And.intro)⟩⟩

end Go.Proofs.YtophhppklaofaaaDoor.Vx
namespace Go.Proofs.YtophhppklaofaaaDoor
open Go.RowKit
set_option linter.unusedVariables false
theorem treeFoldsWalk (w : World) (hk : ∀ i, i < 64 → w.cell? ⟨0, i, none⟩ = some (.int .u32 (Sha.kOf i))) (a : Option Addr) (cap : Nat) (fs : List (Nat → Int)) (hs : SlIn w a 32 cap (fs.map hashV)) (hf : ∀ f ∈ fs, ∀ i, 0 ≤ f i ∧ f i < 256) (i : Int) (hi : -9223372036854775808 ≤ i ∧ i ≤ 9223372036854775807) (h : Nat → Int) (hh : ∀ i, 0 ≤ h i ∧ h i < 256) :
    Calls Tryd.prog 14 #[.slice a fs.length cap, .int .i64 i, .agg (hashV h).toArray] w fun e w' => e = .returned (.bool true) ∧ Below w.heap.size w w' := by
  obtain ⟨p, hp, g⟩ := hashes_good hs
  have hm := hs.max
  simp only [List.length_map] at hm
  rw [← hp]
  refine Calls.mono (Vx.foldsP.run [.c (.row 1), .c (.int .i64 i), .agg (Vx.hashC h)] [.glob 0 1 64 (fun i => [.int .u32 (Sha.kOf i)]), .elems 24 32 fs.length (fun i => Vx.hashC (fs.getD i fun _ => 0))] _ _ _ rfl
    ⟨Vx.ksAt_self, rfl, rfl, hashes_at hf, Nat.le_trans hm (by decide), ⟨h, rfl, hh⟩⟩ [⟨0, undef, 0⟩, p] w _ (Vx.Rel.addView (Vx.relGlob hk) 24 g) ⟨_, _, rfl, (by obtain ⟨a', cap', e, _⟩ := g.sl; simp [Vx.SV.is, Vx.CV.den, e, Vx.one] : Vx.SV.is [⟨0, undef, 0⟩, p] (.c (.row 1)) p.v), _, _, rfl, rfl, _, _, rfl, ⟨_, hashC_is h _, rfl⟩, rfl⟩) fun e W' he => ?_
  obtain ⟨u, ρ', rfl, hu, hr⟩ := he
  obtain rfl : .bool true = u := Option.some.inj hu
  exact ⟨rfl, Vx.Rel.toBelow hr⟩
end Go.Proofs.YtophhppklaofaaaDoor
