/- ProofTells, by the walker. -/
import Derived.Test.YthomoliklfmnkaaDoorM37
import Derived.Test.YthomoliklfmnkaaDoorM38
import Derived.Test.YthomoliklfmnkaaDoorM28
import Derived.Test.YthomoliklfmnkaaDoorM35
import Derived.Test.YthomoliklfmnkaaDoorM11
section
namespace Go.Proofs.YthomoliklfmnkaaDoor.Vx
open Sha
open Go.RowKit
set_option linter.unusedVariables false
set_option linter.unusedSimpArgs false
/-- The sums of a proof that comes in. -/
def RawP (K : List PLeaf) : Prop := ∀ x ∈ K, ∀ h ∈ x.p, h.length = 32 ∧ ∀ b ∈ h, 0 ≤ b ∧ b < 256
theorem light_ok {K : List PLeaf} (h : lightL K = true) (hr : RawP K) : K.length ≤ 5 ∧ ∀ x ∈ K, x.ok := by
  unfold lightL at h
  rw [Bool.and_eq_true, decide_eq_true_iff, List.all_eq_true] at h
  refine ⟨h.1, fun x hx => ?_⟩
  obtain ⟨i, hi, rfl⟩ := List.getElem_of_mem hx
  have hl := lightAt_iff.1 (h.2 i (List.mem_range.2 hi))
  have e : K.getD i .none = K[i] := by simp [List.getD, hi]
  unfold lK lV lN lP at hl
  rw [e] at hl
  exact ⟨by omega, by omega, by omega, hr _ hx⟩


end Go.Proofs.YthomoliklfmnkaaDoor.Vx
end

section
/- What a writer of proofs and messages leaves, plainly. -/
namespace Go.Proofs.YthomoliklfmnkaaDoor.Vx
set_option linter.unusedVariables false
set_option linter.unusedSimpArgs false
def wH (h : List Int) (s : WS) : WS := (putW s.1 (hashOf h) s.2, s.2)
def wPath (p : List (List Int)) (s : WS) : WS := p.foldl (fun s h => wH h s) s
def wLeaf0 (x : PLeaf) (s : WS) : WS := wN (x.p.length : Int) (wN x.i (wT x.v (wT x.k s)))
def wLeaf (x : PLeaf) (s : WS) : WS := wPath x.p (wLeaf0 x s)
def wLeaves (L : List PLeaf) (s : WS) : WS := L.foldl (fun s x => wLeaf x s) s
def wProof (c : Int) (L : List PLeaf) (s : WS) : WS := wLeaves L (wN (L.length : Int) (wN c s))
theorem wPath_take {p : List (List Int)} {i : Nat} (h : i < p.length) (s : WS) : wPath (p.take (i + 1)) s = wH (p[i]) (wPath (p.take i) s) := by
  unfold wPath
  rw [List.take_add_one, List.getElem?_eq_getElem h, List.foldl_append]
  rfl
theorem wPath_takeD {p : List (List Int)} {i : Nat} (h : i < p.length) (s : WS) : wPath (p.take (i + 1)) s = wH (p.getD i []) (wPath (p.take i) s) := by
  rw [wPath_take h, List.getD_eq_getElem?_getD, List.getElem?_eq_getElem h]
  rfl
theorem getD_32 {p : List (List Int)} {i : Nat} (h : i < p.length) (h32 : ∀ x ∈ p, x.length = 32) : (p.getD i []).length = 32 := by
  rw [List.getD_eq_getElem?_getD, List.getElem?_eq_getElem h]
  exact h32 _ (List.getElem_mem h)
theorem wLeaves_take {L : List PLeaf} {i : Nat} (h : i < L.length) (s : WS) : wLeaves (L.take (i + 1)) s = wLeaf (L[i]) (wLeaves (L.take i) s) := by
  unfold wLeaves
  rw [List.take_add_one, List.getElem?_eq_getElem h, List.foldl_append]
  rfl
/-! ### How much room it takes -/
theorem wN_len (v : Int) (s : WS) : (wN v s).1.length ≤ s.1.length + 9 := num_le s.1 v s.2
theorem wT_len (m : List UInt8) (s : WS) : (wT m s).1.length ≤ s.1.length + m.length + 9 := text_le s.1 m s.2
theorem wH_len {h : List Int} (s : WS) : (wH h s).1.length ≤ s.1.length + h.length := by
  unfold wH putW
  dsimp only
  split
  · omega
  · rw [List.length_append, hashOf_len]; exact Nat.le_refl _
theorem wPath_len : ∀ (p : List (List Int)) (s : WS), (∀ h ∈ p, h.length = 32) → (wPath p s).1.length ≤ s.1.length + 32 * p.length
  | [], s, _ => by simp [wPath]
  | h :: p, s, hp => by
    have ih := wPath_len p (wH h s) fun x hx => hp x (by simp [hx])
    have := wH_len (h := h) s
    rw [hp h (by simp)] at this
    have e : wPath (h :: p) s = wPath p (wH h s) := rfl
    rw [e]
    simp only [List.length_cons]
    omega
structure LeafFit (x : PLeaf) : Prop where
  k : x.k.length ≤ 1000
  v : x.v.length ≤ 1000
  p : x.p.length ≤ 1000
  i : isI64 x.i
  h : ∀ h ∈ x.p, h.length = 32
theorem wLeaf_len {x : PLeaf} (h : LeafFit x) (s : WS) : (wLeaf x s).1.length ≤ s.1.length + 40000 := by
  have h1 := wPath_len x.p (wLeaf0 x s) h.h
  have h2 := wN_len (x.p.length : Int) (wN x.i (wT x.v (wT x.k s)))
  have h3 := wN_len x.i (wT x.v (wT x.k s))
  have h4 := wT_len x.v (wT x.k s)
  have h5 := wT_len x.k s
  have h6 := h.k
  have h7 := h.v
  have h8 := h.p
  unfold wLeaf
  unfold wLeaf0 at h1 ⊢
  omega
theorem wLeaves_len : ∀ (L : List PLeaf) (s : WS), (∀ x ∈ L, LeafFit x) → (wLeaves L s).1.length ≤ s.1.length + 40000 * L.length
  | [], s, _ => by simp [wLeaves]
  | x :: L, s, hp => by
    have ih := wLeaves_len L (wLeaf x s) fun y hy => hp y (by simp [hy])
    have := wLeaf_len (hp x (by simp)) s
    have e : wLeaves (x :: L) s = wLeaves L (wLeaf x s) := rfl
    rw [e]
    simp only [List.length_cons]
    omega
structure PrFit (c : Int) (L : List PLeaf) (l : List UInt8) : Prop where
  c : isI64 c
  n : L.length ≤ 1000
  l : l.length ≤ 1000000000
  x : ∀ x ∈ L, LeafFit x
/-! ### What may be is written as its bytes -/
theorem wH_ok (h : List Int) (l : List UInt8) : wH h (l, false) = (l ++ hashOf h, false) := by simp [wH, putW]
theorem wPath_ok : ∀ (p : List (List Int)) (l : List UInt8), wPath p (l, false) = (l ++ flatE hashOf p, false)
  | [], l => by simp [wPath, flatE]
  | h :: p, l => by
    have e : wPath (h :: p) (l, false) = wPath p (wH h (l, false)) := rfl
    rw [e, wH_ok, wPath_ok p]
    simp [flatE]
theorem wLeaf_ok {x : PLeaf} (h : leafV x) (l : List UInt8) : wLeaf x (l, false) = (l ++ leafB x, false) := by
  obtain ⟨h1, h2, ⟨h3, h4⟩, ⟨h5, h6⟩, -⟩ := h
  unfold wLeaf wLeaf0
  rw [wT_ok (by omega), wT_ok (by omega), wN_ok h3 (by omega), wN_ok h5 (by omega), wPath_ok]
  simp [leafB]
theorem wLeaves_ok : ∀ (L : List PLeaf) (l : List UInt8), (∀ x ∈ L, leafV x) → wLeaves L (l, false) = (l ++ flatE leafB L, false)
  | [], l, _ => by simp [wLeaves, flatE]
  | x :: L, l, h => by
    have e : wLeaves (x :: L) (l, false) = wLeaves L (wLeaf x (l, false)) := rfl
    rw [e, wLeaf_ok (h x (by simp)), wLeaves_ok L _ fun y hy => h y (by simp [hy])]
    simp [flatE]
theorem wProof_ok {c : Int} {L : List PLeaf} (h : proofV (c, L)) (l : List UInt8) : wProof c L (l, false) = (l ++ proofB (c, L), false) := by
  obtain ⟨⟨h1, h2⟩, ⟨h3, h4⟩, h5⟩ := h
  dsimp only at h1 h2 h3 h4 h5
  unfold wProof
  rw [wN_ok h1 (by omega), wN_ok h3 (by omega), wLeaves_ok L _ h5]
  simp [proofB]
theorem leafV_fit {x : PLeaf} (h : leafV x) : LeafFit x := by
  obtain ⟨h1, h2, ⟨h3, h4⟩, ⟨h5, h6⟩, h7⟩ := h
  exact ⟨by omega, by omega, by omega, by unfold isI64; omega, fun y hy => (h7 y hy).1⟩
theorem proofV_fit {c : Int} {L : List PLeaf} (h : proofV (c, L)) {l : List UInt8} (hl : l.length ≤ 1000000000) : PrFit c L l := by
  obtain ⟨⟨h1, h2⟩, ⟨h3, h4⟩, h5⟩ := h
  dsimp only at h1 h2 h3 h4 h5
  exact ⟨by unfold isI64; omega, by omega, hl, fun x hx => leafV_fit (h5 x hx)⟩
end Go.Proofs.YthomoliklfmnkaaDoor.Vx
end

section
/- Proofs written, by the walker. -/
namespace Go.Proofs.YthomoliklfmnkaaDoor.Vx
open Go.RowKit
set_option linter.unusedVariables false
set_option linter.unusedSimpArgs false
/-- A number of a sum. -/
def hN (p : List (List Int)) (i j : Nat) : Int := (p.getD i []).getD j 0
theorem list32 {h : List Int} (hl : h.length = 32) : [h.getD 0 0, h.getD 1 0, h.getD 2 0, h.getD 3 0, h.getD 4 0, h.getD 5 0, h.getD 6 0, h.getD 7 0, h.getD 8 0, h.getD 9 0, h.getD 10 0, h.getD 11 0, h.getD 12 0, h.getD 13 0, h.getD 14 0, h.getD 15 0, h.getD 16 0, h.getD 17 0, h.getD 18 0, h.getD 19 0, h.getD 20 0, h.getD 21 0, h.getD 22 0, h.getD 23 0, h.getD 24 0, h.getD 25 0, h.getD 26 0, h.getD 27 0, h.getD 28 0, h.getD 29 0, h.getD 30 0, h.getD 31 0] = h := by
  have e : [h.getD 0 0, h.getD 1 0, h.getD 2 0, h.getD 3 0, h.getD 4 0, h.getD 5 0, h.getD 6 0, h.getD 7 0, h.getD 8 0, h.getD 9 0, h.getD 10 0, h.getD 11 0, h.getD 12 0, h.getD 13 0, h.getD 14 0, h.getD 15 0, h.getD 16 0, h.getD 17 0, h.getD 18 0, h.getD 19 0, h.getD 20 0, h.getD 21 0, h.getD 22 0, h.getD 23 0, h.getD 24 0, h.getD 25 0, h.getD 26 0, h.getD 27 0, h.getD 28 0, h.getD 29 0, h.getD 30 0, h.getD 31 0] = (List.range 32).map fun j => h.getD j 0 := rfl
  rw [e]
  apply List.ext_getElem (by simp [hl])
  intro j h1 h2
  simp [List.getD, h2]
/-- So many leaves are written. -/
structure LWr (L : List PLeaf) (s0 : WS) where
  i : Int
  n : Nat
  l : List UInt8
  b : Bool
  hn : i = (n : Int)
  h1 : n ≤ L.length
  w : wLeaves (L.take n) s0 = (l, b)
/-- So many sums are written. -/
structure LWp (p : List (List Int)) (s0 : WS) where
  i : Int
  n : Nat
  l : List UInt8
  b : Bool
  hn : i = (n : Int)
  h1 : n ≤ p.length
  w : wPath (p.take n) s0 = (l, b)
def prWPre (t e : Nat) (c : Int) (L : List PLeaf) (l : List UInt8) : Prop := t = 160 ∧ e = 5 ∧ PrFit c L l
theorem lN_eq {L : List PLeaf} {n : Nat} (h : n < L.length) : lN L n = L[n].p.length ∧ lP L n = L[n].p ∧ lK L n = L[n].k ∧ lV L n = L[n].v ∧ lI L n = L[n].i := by
  have e : L.getD n .none = L[n] := by simp [List.getD, h]
  unfold lN lP lK lV lI
  rw [e]
  exact ⟨rfl, rfl, rfl, rfl, rfl⟩
theorem wLeaves_tl {c : Int} {L : List PLeaf} {l0 l : List UInt8} {b0 b : Bool} {n : Nat} (h : PrFit c L l0) (hn : n ≤ L.length) (w : wLeaves (L.take n) (wN (L.length : Int) (wN c (l0, b0))) = (l, b)) : l.length ≤ 1100000000 := by
  have h1 := wLeaves_len (L.take n) (wN (L.length : Int) (wN c (l0, b0))) fun x hx => h.x x (List.mem_of_mem_take hx)
  rw [w] at h1
  have h2 := wN_len (L.length : Int) (wN c (l0, b0))
  have h3 := wN_len c (l0, b0)
  have h4 := h.l
  have h5 := h.n
  have h6 : (L.take n).length ≤ 1000 := by rw [List.length_take]; omega
  dsimp only at h1 h3
  omega
def sWProof : SpecF
  | [.c (.ptr 0 0), .agg [.int .i64 c, .row 2]], [.cells t [.row 1, .bool b], .bytes e l, .data fr ty sz n get] => some (prWPre t e c (leafL n get) l ∧ leavesPre ty sz n get, .tup [], [.cells 160 [.row 3, .bool (wProof c (leafL n get) (l, b)).2], .dead, .dead, .bytes 5 (wProof c (leafL n get) (l, b)).1])
  | _, _ => none

set_option maxRecDepth 100000 in
set_option maxHeartbeats 8000000 in
theorem wProofP : Fn Tryd.prog 71 [] [(115, 204)] sWProof := by
  have hC : CtsOk Tryd.prog [(113, appW 160 5 sNum), (114, appW 160 5 sWText), (115, appW 160 5 sHashW)] := CtsOk.cons (MethW.ct numP) <| CtsOk.cons (MethW.ct wTextP) <| CtsOk.cons (MethW.ct hashWP) <| CtsOk.nil _
  refine Fn.of (E := tbR) [] 0 [] tbR_ok hC (by kernel_rfl) Tryd.func71 rfl rfl rfl (by kernel_rfl) (by kernel_rfl) 3 5 1 ?_ ?_
  · intro args h pre r h' hs
    unfold sWProof at hs
    split at hs
    · cases hs; exact ⟨rfl, rfl, Nat.le_of_ble_eq_true rfl⟩
    · cases hs
  · intro args h pre r h' hs hp
    unfold sWProof at hs
    split at hs
    rotate_left
    · cases hs
    rename_i c t b e l fr ty sz n get
    cases hs
    obtain ⟨⟨rfl, rfl, hf⟩, rfl, rfl, hst, hok, hm⟩ := hp
    refine ⟨[.cells 160 [.row 1, .bool b], .bytes 5 l, .data fr 115 4 n (leafG false (leafL n get))], ⟨rfl, rfl, ⟨rfl, rfl, rfl, rfl, fun i j hi hj => by rw [hst i j hi hj]; exact Cell.le_refl _⟩, trivial⟩, ?_⟩
    have hL : (leafL n get).length = n := leafL_len
    generalize leafL n get = L at hL hok hf ⊢
    unfold sNum sWText sHashW
    generalize hg0 : (List.length : List UInt8 → Nat) = g0
    generalize hL : lft Tryd.prog _ = L
    try unfold leafG
    generalize ho0 : @lK = zo0, ho1 : @lV = zo1, ho2 : @lI = zo2, ho3 : @lP = zo3, ho4 : @lN = zo4, ho5 : @pG = zo5, ho6 : @leafL = zo6, ho7 : @leavesPre = zo7, ho8 : @hN = zo8, ho9 : @wN = zo9, ho10 : @wT = zo10, ho11 : @wH = zo11, ho12 : @wLeaf0 = zo12, ho13 : @wPath = zo13, ho14 : @wProof = zo14, ho15 : @prWPre = zo15, ho16 : @hashOf = zo16, ho17 : @putW = zo17, ho18 : @numW = zo18, ho19 : @numBad = zo19, ho20 : @textW = zo20, ho21 : @fitNum = zo21, ho22 : @fitText = zo22, ho23 : @isI64 = zo23
    generalize hA : Arith.std = A
    cbv
    subst hA hg0 hL ho0 ho1 ho2 ho3 ho4 ho5 ho6 ho7 ho8 ho9 ho10 ho11 ho12 ho13 ho14 ho15 ho16 ho17 ho18 ho19 ho20 ho21 ho22 ho23
    have hn0 : (L.length : Int) = (n : Int) := by omega
    refine Need.mk (⟨hf.c, by have := hf.l; omega⟩ : fitNum l c) fun _ => ?_
    have e1 := wN_len c (l, b)
    refine Need.mk (show fitNum (wN c (l, b)).1 (n : Int) from ⟨by unfold isI64; omega, by have := hf.l; dsimp only at e1; omega⟩) fun _ => ?_
    show Runs Tryd.prog 3 (.loop _) _ _
    refine loop_ruleL (N := env (lft Tryd.prog 3) 0 .std tbR [(113, appW 160 5 sNum), (114, appW 160 5 sWText), (115, appW 160 5 sHashW)] []) rfl tbR_ok hC (fun c st K _ h => h) (by kernel_rfl) [] (X := LWr L (wN (n : Int) (wN c (l, b))))
      (S := fun x => ⟨[.c (.ptr 0 0), .any, .any, .c (.ptr 3 0), .any, .any, .any, .any, .any, .any, .any, .any, .any, .any, .any, .any, .any, .any, .c (.row 2), .c (.int .i64 n), .c (.int .i64 x.i)] ++ List.replicate 32 .any, [.cells 160 [.row 4, .bool x.b], .dead, .data fr 115 4 n (leafG false L), .cells 27 [.int .i64 c, .row 2], .bytes 5 x.l]⟩) (μ := fun x => L.length - x.n) ⟨0, 0, (wN (n : Int) (wN c (l, b))).1, (wN (n : Int) (wN c (l, b))).2, rfl, by omega, rfl⟩ (by kernel_rfl) [0, 1, 2, 3, 5] ?_ ?_
    · refine ⟨rfl, by show List.Nodup [0, 3, 5]; decide, ?_, ?_⟩ <;> repeat' (first | exact trivial | exact rfl | apply And.intro | exact (fun _ _ _ _ => Cell.le_refl _) | (intro i hi; rfl) | (intro i hi; exact absurd hi (Nat.not_lt_zero _)))
    rintro ⟨i, k, l', b', hn, h1, w⟩
    replace hn : i = @Nat.cast Int instNatCastInt k := hn
    subst hn
    unfold sNum sWText sHashW
    generalize hg0 : (List.length : List UInt8 → Nat) = g0
    generalize hL : lft Tryd.prog _ = L
    try dsimp only
    try unfold leafG
    generalize ho0 : @lK = zo0, ho1 : @lV = zo1, ho2 : @lI = zo2, ho3 : @lP = zo3, ho4 : @lN = zo4, ho5 : @pG = zo5, ho6 : @leafL = zo6, ho7 : @leavesPre = zo7, ho8 : @hN = zo8, ho9 : @wN = zo9, ho10 : @wT = zo10, ho11 : @wH = zo11, ho12 : @wLeaf0 = zo12, ho13 : @wPath = zo13, ho14 : @wProof = zo14, ho15 : @prWPre = zo15, ho16 : @hashOf = zo16, ho17 : @putW = zo17, ho18 : @numW = zo18, ho19 : @numBad = zo19, ho20 : @textW = zo20, ho21 : @fitNum = zo21, ho22 : @fitText = zo22, ho23 : @isI64 = zo23
    generalize hA : Arith.std = A
    cbv
    subst hA hg0 hL ho0 ho1 ho2 ho3 ho4 ho5 ho6 ho7 ho8 ho9 ho10 ho11 ho12 ho13 ho14 ho15 ho16 ho17 ho18 ho19 ho20 ho21 ho22 ho23
    refine Ife.mk (fun hlt => ?_) (fun hlt => ?_)
    · replace hlt : (k : Int) < @Nat.cast Int instNatCastInt n := of_decide_eq_true (p := (k : Int) < (n : Int)) hlt
      have hk : k < L.length := by omega
      obtain ⟨q1, q2, q3, q4, q5⟩ := lN_eq hk
      have hx := hf.x _ (List.getElem_mem hk)
      have hl' : l'.length ≤ 1100000000 := wLeaves_tl (b0 := b) (b := b') hf h1 (by rw [hL]; exact w)
      have x1 : (lK L k).length ≤ 1000 := by rw [q3]; exact hx.k
      have x2 : (lV L k).length ≤ 1000 := by rw [q4]; exact hx.v
      have x3 : lN L k ≤ 1000 := by rw [q1]; exact hx.p
      have x4 : isI64 (lI L k) := by rw [q5]; exact hx.i
      have t1 := wT_len (lK L k) (l', b')
      have t2 := wT_len (lV L k) (wT (lK L k) (l', b'))
      have t3 := wN_len (lI L k) (wT (lV L k) (wT (lK L k) (l', b')))
      have t4 := wN_len (lN L k : Int) (wN (lI L k) (wT (lV L k) (wT (lK L k) (l', b'))))
      dsimp only at t1
      refine Need.mk (show 0 ≤ (k : Int) ∧ (k : Int) < (n : Int) by omega) fun _ => Need.mk (show k < n by omega) fun _ => ?_
      refine Need.mk (show fitText l' (lK L k) by unfold fitText; omega) fun _ => ?_
      refine Need.mk (show fitText (wT (lK L k) (l', b')).1 (lV L k) by unfold fitText; omega) fun _ => ?_
      refine Need.mk (show fitNum (wT (lV L k) (wT (lK L k) (l', b'))).1 (lI L k) from ⟨x4, by omega⟩) fun _ => ?_
      refine Need.mk (show fitNum (wN (lI L k) (wT (lV L k) (wT (lK L k) (l', b')))).1 (lN L k : Int) from ⟨by unfold isI64; omega, by omega⟩) fun _ => ?_
      have y2 : (wLeaf0 (⟨lK L k, lV L k, lI L k, lP L k⟩ : PLeaf) (l', b')).1.length ≤ 1100010000 := Nat.le_trans (show _ ≤ _ from t4) (by omega)
      have hy : (⟨lK L k, lV L k, lI L k, lP L k⟩ : PLeaf) = L[k] := by rw [q2, q3, q4, q5]
      show Runs Tryd.prog 3 (.loop _) _ _
      refine loop_ruleL (N := env (lft Tryd.prog 3) 0 .std tbR [(113, appW 160 5 sNum), (114, appW 160 5 sWText), (115, appW 160 5 sHashW)] []) rfl tbR_ok hC (fun c st K _ h => h) (by kernel_rfl) [] (X := LWp (lP L k) (wLeaf0 (⟨lK L k, lV L k, lI L k, lP L k⟩ : PLeaf) (l', b')))
        (S := fun x => ⟨[.c (.ptr 0 0), .any, .any, .c (.ptr 3 0), .any, .c (.ptr 6 0), .any, .any, .any, .any, .any, .any, .any, .any, .any, .any, .any, .any, .c (.row 2), .c (.int .i64 n), .c (.int .i64 (k : Int)), .any, .any, .any, .any, .any, .any, .any, .any, .any, .any, .any, .any, .any, .any, .any, .any, .any, .any, .any, .any, .any, .c (.row 5), .c (.int .i64 (lN L k)), .c (.int .i64 x.i)] ++ List.replicate 8 .any, [.cells 160 [.row 7, .bool x.b], .dead, .data fr 115 4 n (leafG false L), .cells 27 [.int .i64 c, .row 2], .dead, .elems 24 32 (lN L k) (fun i => h32 (hN (lP L k) i)), .cells 115 [.str (lK L k), .str (lV L k), .int .i64 (lI L k), .row 5], .bytes 5 x.l]⟩) (μ := fun x => (lP L k).length - x.n) ⟨0, 0, (numW (numW (textW (textW l' (lK L k) b') (lV L k) (numBad ((lK L k).length : Int) b')) (lI L k) (numBad ((lV L k).length : Int) (numBad ((lK L k).length : Int) b'))) (lN L k : Int) (numBad (lI L k) (numBad ((lV L k).length : Int) (numBad ((lK L k).length : Int) b')))), (numBad (lN L k : Int) (numBad (lI L k) (numBad ((lV L k).length : Int) (numBad ((lK L k).length : Int) b')))), rfl, by omega, ?w0⟩ (by kernel_rfl) [0, 1, 2, 3, 4, 5, 6, 10] ?h0 ?rd
      case h0 =>
        refine ⟨rfl, by show List.Nodup [0, 3, 6, 10]; decide, ?_, ?_⟩ <;> repeat' (first | exact trivial | exact rfl | apply And.intro | exact (fun _ _ _ _ => Cell.le_refl _) | (intro i hi; rfl) | (intro i hi; exact absurd hi (Nat.not_lt_zero _)))
      case w0 =>
        show wLeaf0 (⟨lK L k, lV L k, lI L k, lP L k⟩ : PLeaf) (l', b') = _
        simp only [wLeaf0, wN, wT]
        rfl
      rintro ⟨j, m, l2, b2, hm2, h2, w2⟩
      replace hm2 : j = @Nat.cast Int instNatCastInt m := hm2
      subst hm2
      unfold sNum sWText sHashW
      generalize hg0 : (List.length : List UInt8 → Nat) = g0
      generalize hL : lft Tryd.prog _ = L
      try dsimp only
      try unfold leafG
      generalize ho0 : @lK = zo0, ho1 : @lV = zo1, ho2 : @lI = zo2, ho3 : @lP = zo3, ho4 : @lN = zo4, ho5 : @pG = zo5, ho6 : @leafL = zo6, ho7 : @leavesPre = zo7, ho8 : @hN = zo8, ho9 : @wN = zo9, ho10 : @wT = zo10, ho11 : @wH = zo11, ho12 : @wLeaf0 = zo12, ho13 : @wPath = zo13, ho14 : @wProof = zo14, ho15 : @prWPre = zo15, ho16 : @hashOf = zo16, ho17 : @putW = zo17, ho18 : @numW = zo18, ho19 : @numBad = zo19, ho20 : @textW = zo20, ho21 : @fitNum = zo21, ho22 : @fitText = zo22, ho23 : @isI64 = zo23
      generalize hA : Arith.std = A
      cbv
      subst hA hg0 hL ho0 ho1 ho2 ho3 ho4 ho5 ho6 ho7 ho8 ho9 ho10 ho11 ho12 ho13 ho14 ho15 ho16 ho17 ho18 ho19 ho20 ho21 ho22 ho23
      have hlp : (lP L k).length = lN L k := rfl
      have y1 := wPath_len ((lP L k).take m) (wLeaf0 (⟨lK L k, lV L k, lI L k, lP L k⟩ : PLeaf) (l', b')) fun h hh => hx.h h (by rw [← q2]; exact List.mem_of_mem_take hh)
      rw [w2] at y1
      have y3 : ((lP L k).take m).length ≤ 1000 := by rw [List.length_take]; omega
      dsimp only at y1
      refine Ife.mk (fun hlt2 => ?_) (fun hlt2 => ?_)
      · replace hlt2 : (m : Int) < @Nat.cast Int instNatCastInt (lN L k) := of_decide_eq_true (p := (m : Int) < (lN L k : Int)) hlt2
        have hm3 : m < (lP L k).length := by omega
        refine Need.mk (show 0 ≤ (m : Int) ∧ (m : Int) < (lN L k : Int) by omega) fun _ => Need.mk (show m < lN L k by omega) fun _ => ?_
        refine Need.mk (show l2.length ≤ 140737488355000 by omega) fun _ => Need.mk (by show fitStd .i64 ((m : Int) + 1); unfold fitStd; omega) fun _ => ?_
        refine ⟨⟨(m : Int) + 1, m + 1, putW l2 (hashOf [hN (lP L k) m 0, hN (lP L k) m 1, hN (lP L k) m 2, hN (lP L k) m 3, hN (lP L k) m 4, hN (lP L k) m 5, hN (lP L k) m 6, hN (lP L k) m 7, hN (lP L k) m 8, hN (lP L k) m 9, hN (lP L k) m 10, hN (lP L k) m 11, hN (lP L k) m 12, hN (lP L k) m 13, hN (lP L k) m 14, hN (lP L k) m 15, hN (lP L k) m 16, hN (lP L k) m 17, hN (lP L k) m 18, hN (lP L k) m 19, hN (lP L k) m 20, hN (lP L k) m 21, hN (lP L k) m 22, hN (lP L k) m 23, hN (lP L k) m 24, hN (lP L k) m 25, hN (lP L k) m 26, hN (lP L k) m 27, hN (lP L k) m 28, hN (lP L k) m 29, hN (lP L k) m 30, hN (lP L k) m 31]) b2, b2, by omega, by omega, ?w⟩, [0, 1, 2, 3, 4, 5, 6, 9], (by show (lP L k).length - (m + 1) < (lP L k).length - m; omega), ?st⟩
        case st =>
          refine ⟨rfl, by show List.Nodup [0, 3, 6, 9]; decide, by repeat' (first | exact trivial | exact rfl | apply And.intro | exact (fun _ _ _ _ => Cell.le_refl _) | (intro i hi; rfl) | (intro i hi; exact absurd hi (Nat.not_lt_zero _))), ?_⟩
          repeat' (first | exact trivial | exact rfl | apply And.intro | exact (fun _ _ _ _ => Cell.le_refl _) | (intro i hi; rfl) | (intro i hi; exact absurd hi (Nat.not_lt_zero _)))
        case w =>
          show wPath ((lP L k).take (m + 1)) (wLeaf0 (⟨lK L k, lV L k, lI L k, lP L k⟩ : PLeaf) (l', b')) = (putW l2 (hashOf [hN (lP L k) m 0, hN (lP L k) m 1, hN (lP L k) m 2, hN (lP L k) m 3, hN (lP L k) m 4, hN (lP L k) m 5, hN (lP L k) m 6, hN (lP L k) m 7, hN (lP L k) m 8, hN (lP L k) m 9, hN (lP L k) m 10, hN (lP L k) m 11, hN (lP L k) m 12, hN (lP L k) m 13, hN (lP L k) m 14, hN (lP L k) m 15, hN (lP L k) m 16, hN (lP L k) m 17, hN (lP L k) m 18, hN (lP L k) m 19, hN (lP L k) m 20, hN (lP L k) m 21, hN (lP L k) m 22, hN (lP L k) m 23, hN (lP L k) m 24, hN (lP L k) m 25, hN (lP L k) m 26, hN (lP L k) m 27, hN (lP L k) m 28, hN (lP L k) m 29, hN (lP L k) m 30, hN (lP L k) m 31]) b2, b2)
          rw [wPath_takeD hm3, w2]
          have e1 := list32 (getD_32 hm3 (by rw [q2]; exact hx.h))
          unfold wH
          rw [← e1]
          rfl
      · replace hlt2 : ¬ (m : Int) < @Nat.cast Int instNatCastInt (lN L k) := of_decide_eq_false (p := (m : Int) < (lN L k : Int)) hlt2
        have hm3 : m = (lP L k).length := by omega
        refine Need.mk (by show fitStd .i64 ((k : Int) + 1); unfold fitStd; omega) fun _ => ?_
        refine ⟨⟨(k : Int) + 1, k + 1, l2, b2, by omega, by omega, ?w⟩, [0, 1, 2, 3, 7], (by show L.length - (k + 1) < L.length - k; omega), ?st⟩
        case st =>
          refine ⟨rfl, by show List.Nodup [0, 3, 7]; decide, by repeat' (first | exact trivial | exact rfl | apply And.intro | exact (fun _ _ _ _ => Cell.le_refl _) | (intro i hi; rfl) | (intro i hi; exact absurd hi (Nat.not_lt_zero _))), ?_⟩
          repeat' (first | exact trivial | exact rfl | apply And.intro | exact (fun _ _ _ _ => Cell.le_refl _) | (intro i hi; rfl) | (intro i hi; exact absurd hi (Nat.not_lt_zero _)))
        case w =>
          rw [wLeaves_take hk, w, ← hy]
          show wPath (lP L k) _ = _
          rw [List.take_of_length_le (by omega)] at w2
          exact w2
    · replace hlt : ¬ (k : Int) < @Nat.cast Int instNatCastInt n := of_decide_eq_false (p := (k : Int) < (n : Int)) hlt
      rw [List.take_of_length_le (by omega)] at w
      have hw : wProof c L (l, b) = (l', b') := by
        unfold wProof
        rw [hL]
        exact w
      rw [hw]
      exact ⟨[0, 1, 2, 4], ⟨rfl, by repeat' (first | exact trivial | exact rfl | apply And.intro | exact (fun _ _ _ _ => Cell.le_refl _) | (intro i hi; rfl) | (intro i hi; exact absurd hi (Nat.not_lt_zero _))), (by show List.Nodup [0, 4]; decide), rfl, by repeat' (first | exact trivial | exact rfl | apply And.intro | exact (fun _ _ _ _ => Cell.le_refl _) | (intro i hi; rfl) | (intro i hi; exact absurd hi (Nat.not_lt_zero _)))⟩⟩

end Go.Proofs.YthomoliklfmnkaaDoor.Vx
end

section
/- Messages written, by the walker. -/
namespace Go.Proofs.YthomoliklfmnkaaDoor.Vx
open Go.RowKit
set_option linter.unusedVariables false
set_option linter.unusedSimpArgs false


end Go.Proofs.YthomoliklfmnkaaDoor.Vx
end

section
/- The document's proofs as bytes, by the walker. -/
namespace Go.Proofs.YthomoliklfmnkaaDoor.Vx
open Go.RowKit
set_option linter.unusedVariables false
set_option linter.unusedSimpArgs false
theorem leavesB_len {L : List PLeaf} (h : ∀ x ∈ L, leafV x) : (flatE leafB L).length ≤ 40000 * L.length := by
  have e := wLeaves_ok L [] h
  have l := wLeaves_len L ([], false) fun x hx => leafV_fit (h x hx)
  rw [e] at l
  simpa using l
theorem sumsB_len {p : List (List Int)} (h : ∀ x ∈ p, x.length = 32) : (flatE hashOf p).length ≤ 32 * p.length := by
  have e := wPath_ok p []
  have l := wPath_len p ([], false) h
  rw [e] at l
  simpa using l
theorem flatE_take {α : Type} (E : α → List UInt8) {p : List α} {i : Nat} (h : i < p.length) : flatE E (p.take (i + 1)) = flatE E (p.take i) ++ E p[i] := by
  unfold flatE
  rw [List.take_add_one, List.getElem?_eq_getElem h, List.map_append, List.flatten_append]
  simp
theorem hashOf_lenL (h : List Int) : (hashOf h).length = h.length := by simp [hashOf]
/-- The bytes of the first leaves. -/
structure LPp (L : List PLeaf) (s0 : List UInt8) where
  i : Int
  n : Nat
  l : List UInt8
  hn : i = (n : Int)
  h1 : n ≤ L.length
  w : l = s0 ++ flatE leafB (L.take n)
/-- The bytes of the first sums. -/
structure LPq (p : List (List Int)) (s0 : List UInt8) where
  i : Int
  n : Nat
  l : List UInt8
  hn : i = (n : Int)
  h1 : n ≤ p.length
  w : l = s0 ++ flatE hashOf (p.take n)
def rPutPre (c : Int) (L : List PLeaf) : Prop := proofV (c, L)
def sRPutPr : SpecF
  | [.agg [.int .i64 c, .row 0]], [.data fr ty sz n get] => some (rPutPre c (leafL n get) ∧ leavesPre ty sz n get, .c (.str (proofB (c, leafL n get))), [.dead])
  | _, _ => none

set_option maxRecDepth 100000 in
set_option maxHeartbeats 8000000 in
theorem rputPrP : Fn Tryd.prog 73 [] [(115, 204)] sRPutPr := by
  have hC : CtsOk Tryd.prog [(116, appPure sLebPut), (117, appPure sPutText), (96, appPure sHText)] := CtsOk.cons (Pure.ct refPutP) <| CtsOk.cons (Pure.ct refPutTextP) <| CtsOk.cons (Pure.ct refHTextP) <| CtsOk.nil _
  refine Fn.of (E := tbR) [] 0 [(1, [(0, true), (1, true), (3, true), (4, true), (5, true), (2, false), (6, false), (7, true), (8, true)]), (6, [(0, true), (1, true), (2, true), (4, true), (5, true), (8, true), (9, true), (12, true), (13, true), (14, true), (3, false), (6, false), (7, true), (10, false), (11, true), (15, false), (16, true), (17, true), (18, true)])] tbR_ok hC (by kernel_rfl) Tryd.func73 rfl rfl rfl (by kernel_rfl) (by kernel_rfl) 1 5 1 ?_ ?_
  · intro args h pre r h' hs
    unfold sRPutPr at hs
    split at hs
    · cases hs; exact ⟨rfl, rfl, Nat.le_of_ble_eq_true rfl⟩
    · cases hs
  · intro args h pre r h' hs hp
    unfold sRPutPr at hs
    split at hs
    rotate_left
    · cases hs
    rename_i c fr ty sz n get
    cases hs
    obtain ⟨hV, rfl, rfl, hst, hok, hm⟩ := hp
    refine ⟨[.data fr 115 4 n (leafG false (leafL n get))], ⟨⟨rfl, rfl, rfl, rfl, fun i j hi hj => by rw [hst i j hi hj]; exact Cell.le_refl _⟩, trivial⟩, ?_⟩
    have hL : (leafL n get).length = n := leafL_len
    generalize leafL n get = L at hL hok hV ⊢
    unfold sLebPut sPutText sHText
    generalize hg0 : (List.length : List UInt8 → Nat) = g0
    generalize hL : lft Tryd.prog _ = L
    try unfold leafG
    generalize ho0 : @lK = zo0, ho1 : @lV = zo1, ho2 : @lI = zo2, ho3 : @lP = zo3, ho4 : @lN = zo4, ho5 : @pG = zo5, ho6 : @leafL = zo6, ho7 : @leavesPre = zo7, ho8 : @hN = zo8, ho9 : @textB = zo9, ho10 : @Leb.put = zo10, ho11 : @hashOf = zo11, ho12 : @flatE = zo12, ho13 : @leafB = zo13, ho14 : @proofB = zo14, ho15 : @isI64 = zo15, ho16 : @rPutPre = zo16
    generalize hA : Arith.std = A
    cbv
    subst hA hg0 hL ho0 ho1 ho2 ho3 ho4 ho5 ho6 ho7 ho8 ho9 ho10 ho11 ho12 ho13 ho14 ho15 ho16
    have hn0 : (L.length : Int) = (n : Int) := by omega
    have hV0 : proofV (c, L) := hV
    obtain ⟨⟨v1, v2⟩, ⟨v3, v4⟩, v5⟩ := hV
    dsimp only at v1 v2 v3 v4 v5
    have v6 : L.length ≤ 2 := Int.ofNat_le.mp v4
    have p1 := Leb.put_len_le c
    have p2 := Leb.put_len_le (n : Int)
    refine Need.mk (show isI64 c by unfold isI64; omega) fun _ => ?_
    refine Need.mk (show isI64 (n : Int) by unfold isI64; omega) fun _ => ?_
    refine Need.mk (show ((Leb.put c).length : Int) + (Leb.put (n : Int)).length ≤ 9223372036854775807 by omega) fun _ => ?_
    show Runs Tryd.prog 1 (.loop _) _ _
    refine loop_ruleL (N := env (lft Tryd.prog 1) 0 .std tbR [(116, appPure sLebPut), (117, appPure sPutText), (96, appPure sHText)] [(1, [(0, true), (1, true), (3, true), (4, true), (5, true), (2, false), (6, false), (7, true), (8, true)]), (6, [(0, true), (1, true), (2, true), (4, true), (5, true), (8, true), (9, true), (12, true), (13, true), (14, true), (3, false), (6, false), (7, true), (10, false), (11, true), (15, false), (16, true), (17, true), (18, true)])]) rfl tbR_ok hC (fun c st K _ h => h) (by kernel_rfl) [] (X := LPp L (Leb.put c ++ Leb.put (n : Int)))
      (S := fun x => ⟨[.any, .c (.ptr 1 0), .any, .c (.str x.l), .c (.int .i64 x.i)] ++ List.replicate 56 .any, [.data fr 115 4 n (leafG false L), .cells 27 [.int .i64 c, .row 0]]⟩) (μ := fun x => L.length - x.n) ⟨0, 0, Leb.put c ++ Leb.put (n : Int), rfl, by omega, by simp [flatE]⟩ (by kernel_rfl) [0, 1] ?_ ?_
    · refine ⟨rfl, by show List.Nodup [1]; decide, ?_, ?_⟩ <;> repeat' (first | exact trivial | exact rfl | apply And.intro | exact (fun _ _ _ _ => Cell.le_refl _) | (intro i hi; rfl) | (intro i hi; exact absurd hi (Nat.not_lt_zero _)))
    rintro ⟨i, k, l', hn, h1, w⟩
    replace hn : i = @Nat.cast Int instNatCastInt k := hn
    subst hn
    unfold sLebPut sPutText sHText
    generalize hg0 : (List.length : List UInt8 → Nat) = g0
    generalize hL : lft Tryd.prog _ = L
    try dsimp only
    try unfold leafG
    generalize ho0 : @lK = zo0, ho1 : @lV = zo1, ho2 : @lI = zo2, ho3 : @lP = zo3, ho4 : @lN = zo4, ho5 : @pG = zo5, ho6 : @leafL = zo6, ho7 : @leavesPre = zo7, ho8 : @hN = zo8, ho9 : @textB = zo9, ho10 : @Leb.put = zo10, ho11 : @hashOf = zo11, ho12 : @flatE = zo12, ho13 : @leafB = zo13, ho14 : @proofB = zo14, ho15 : @isI64 = zo15, ho16 : @rPutPre = zo16
    generalize hA : Arith.std = A
    cbv
    subst hA hg0 hL ho0 ho1 ho2 ho3 ho4 ho5 ho6 ho7 ho8 ho9 ho10 ho11 ho12 ho13 ho14 ho15 ho16
    refine Ife.mk (fun hlt => ?_) (fun hlt => ?_)
    · replace hlt : (k : Int) < @Nat.cast Int instNatCastInt n := of_decide_eq_true (p := (k : Int) < (n : Int)) hlt
      have hk : k < L.length := by omega
      obtain ⟨q1, q2, q3, q4, q5⟩ := lN_eq hk
      have hx := v5 _ (List.getElem_mem hk)
      obtain ⟨x1, x2, ⟨x3, x3'⟩, ⟨x4, x4'⟩, x5⟩ := hx
      rw [← q3] at x1
      rw [← q4] at x2
      rw [← q5] at x3 x3'
      have z := leavesB_len (L := L.take k) fun x hx => v5 x (List.mem_of_mem_take hx)
      have z2 : (L.take k).length ≤ 2 := Nat.le_trans (by rw [List.length_take]; exact Nat.min_le_right _ _) v6
      have x1n : (lK L k).length ≤ 160 := Int.ofNat_le.mp x1
      have x2n : (lV L k).length ≤ 64 := Int.ofNat_le.mp x2
      have hl' : l'.length ≤ 100000 := by rw [w]; simp only [List.length_append]; omega
      have x6 : (lN L k : Int) ≤ 30 := by rw [q1]; exact x4'
      have t1 := textB_len (lK L k)
      have t2 := textB_len (lV L k)
      have t3 := Leb.put_len_le (lI L k)
      have t4 := Leb.put_len_le (lN L k : Int)
      refine Need.mk (show 0 ≤ (k : Int) ∧ (k : Int) < (n : Int) by omega) fun _ => Need.mk (show k < n by omega) fun _ => ?_
      refine Need.mk (show (lK L k).length ≤ 9223372036854770000 by omega) fun _ => ?_
      refine Need.mk (show (lV L k).length ≤ 9223372036854770000 by omega) fun _ => ?_
      refine Need.mk (show ((textB (lK L k)).length : Int) + (textB (lV L k)).length ≤ 9223372036854775807 by omega) fun _ => ?_
      refine Need.mk (show isI64 (lI L k) by unfold isI64; omega) fun _ => ?_
      refine Need.mk (show ((textB (lK L k) ++ textB (lV L k)).length : Int) + (Leb.put (lI L k)).length ≤ 9223372036854775807 by simp only [List.length_append]; omega) fun _ => ?_
      refine Need.mk (show isI64 (lN L k : Int) by unfold isI64; omega) fun _ => ?_
      refine Need.mk (show ((textB (lK L k) ++ textB (lV L k) ++ Leb.put (lI L k)).length : Int) + (Leb.put (lN L k : Int)).length ≤ 9223372036854775807 by simp only [List.length_append]; omega) fun _ => ?_
      refine Need.mk (show (l'.length : Int) + (textB (lK L k) ++ textB (lV L k) ++ Leb.put (lI L k) ++ Leb.put (lN L k : Int)).length ≤ 9223372036854775807 by simp only [List.length_append]; omega) fun _ => ?_
      have hlp : (lP L k).length = lN L k := rfl
      have x7 : lN L k ≤ 30 := Int.ofNat_le.mp x6
      have hs32 : ∀ h ∈ lP L k, h.length = 32 := fun h hh => (x5 h (by rw [← q2]; exact hh)).1
      have hy : (⟨lK L k, lV L k, lI L k, lP L k⟩ : PLeaf) = L[k] := by rw [q2, q3, q4, q5]
      show Runs Tryd.prog 1 (.loop _) _ _
      refine loop_ruleL (N := env (lft Tryd.prog 1) 0 .std tbR [(116, appPure sLebPut), (117, appPure sPutText), (96, appPure sHText)] [(1, [(0, true), (1, true), (3, true), (4, true), (5, true), (2, false), (6, false), (7, true), (8, true)]), (6, [(0, true), (1, true), (2, true), (4, true), (5, true), (8, true), (9, true), (12, true), (13, true), (14, true), (3, false), (6, false), (7, true), (10, false), (11, true), (15, false), (16, true), (17, true), (18, true)])]) rfl tbR_ok hC (fun c st K _ h => h) (by kernel_rfl) [] (X := LPq (lP L k) (l' ++ (textB (lK L k) ++ textB (lV L k) ++ Leb.put (lI L k) ++ Leb.put (lN L k : Int))))
        (S := fun x => ⟨[.any, .c (.ptr 1 0), .any, .c (.str x.l), .c (.int .i64 (k : Int)), .c (.ptr 3 0), .c (.int .i64 x.i)] ++ List.replicate 54 .any, [.data fr 115 4 n (leafG false L), .cells 27 [.int .i64 c, .row 0], .elems 24 32 (lN L k) (fun i => h32 (hN (lP L k) i)), .cells 115 [.str (lK L k), .str (lV L k), .int .i64 (lI L k), .row 2]]⟩) (μ := fun x => (lP L k).length - x.n) ⟨0, 0, l' ++ (textB (lK L k) ++ textB (lV L k) ++ Leb.put (lI L k) ++ Leb.put (lN L k : Int)), rfl, by omega, by simp [flatE]⟩ (by kernel_rfl) [0, 1, 2, 3] ?_ ?_
      · refine ⟨rfl, by show List.Nodup [1, 3]; decide, ?_, ?_⟩ <;> repeat' (first | exact trivial | exact rfl | apply And.intro | exact (fun _ _ _ _ => Cell.le_refl _) | (intro i hi; rfl) | (intro i hi; exact absurd hi (Nat.not_lt_zero _)))
      rintro ⟨j, m, l2, hm2, h2, w2⟩
      replace hm2 : j = @Nat.cast Int instNatCastInt m := hm2
      subst hm2
      unfold sLebPut sPutText sHText
      generalize hg0 : (List.length : List UInt8 → Nat) = g0
      generalize hL : lft Tryd.prog _ = L
      try dsimp only
      try unfold leafG
      generalize ho0 : @lK = zo0, ho1 : @lV = zo1, ho2 : @lI = zo2, ho3 : @lP = zo3, ho4 : @lN = zo4, ho5 : @pG = zo5, ho6 : @leafL = zo6, ho7 : @leavesPre = zo7, ho8 : @hN = zo8, ho9 : @textB = zo9, ho10 : @Leb.put = zo10, ho11 : @hashOf = zo11, ho12 : @flatE = zo12, ho13 : @leafB = zo13, ho14 : @proofB = zo14, ho15 : @isI64 = zo15, ho16 : @rPutPre = zo16
      generalize hA : Arith.std = A
      cbv
      subst hA hg0 hL ho0 ho1 ho2 ho3 ho4 ho5 ho6 ho7 ho8 ho9 ho10 ho11 ho12 ho13 ho14 ho15 ho16
      have y1 := sumsB_len (p := (lP L k).take m) fun h hh => hs32 h (List.mem_of_mem_take hh)
      have y2 : ((lP L k).take m).length ≤ 30 := by rw [List.length_take]; omega
      have y3 : l2.length ≤ 200000 := by rw [w2]; simp only [List.length_append]; omega
      refine Ife.mk (fun hlt2 => ?_) (fun hlt2 => ?_)
      · replace hlt2 : (m : Int) < @Nat.cast Int instNatCastInt (lN L k) := of_decide_eq_true (p := (m : Int) < (lN L k : Int)) hlt2
        have hm3 : m < (lP L k).length := by omega
        refine Need.mk (show 0 ≤ (m : Int) ∧ (m : Int) < (lN L k : Int) by omega) fun _ => Need.mk (show m < lN L k by omega) fun _ => ?_
        have e0 := list32 (getD_32 hm3 hs32)
        have e1 : hashOf [hN (lP L k) m 0, hN (lP L k) m 1, hN (lP L k) m 2, hN (lP L k) m 3, hN (lP L k) m 4, hN (lP L k) m 5, hN (lP L k) m 6, hN (lP L k) m 7, hN (lP L k) m 8, hN (lP L k) m 9, hN (lP L k) m 10, hN (lP L k) m 11, hN (lP L k) m 12, hN (lP L k) m 13, hN (lP L k) m 14, hN (lP L k) m 15, hN (lP L k) m 16, hN (lP L k) m 17, hN (lP L k) m 18, hN (lP L k) m 19, hN (lP L k) m 20, hN (lP L k) m 21, hN (lP L k) m 22, hN (lP L k) m 23, hN (lP L k) m 24, hN (lP L k) m 25, hN (lP L k) m 26, hN (lP L k) m 27, hN (lP L k) m 28, hN (lP L k) m 29, hN (lP L k) m 30, hN (lP L k) m 31] = hashOf ((lP L k).getD m []) := congrArg hashOf e0
        have e2 : (hashOf ((lP L k).getD m [])).length = 32 := by rw [hashOf_lenL]; exact getD_32 hm3 hs32
        have e3 : (hashOf [hN (lP L k) m 0, hN (lP L k) m 1, hN (lP L k) m 2, hN (lP L k) m 3, hN (lP L k) m 4, hN (lP L k) m 5, hN (lP L k) m 6, hN (lP L k) m 7, hN (lP L k) m 8, hN (lP L k) m 9, hN (lP L k) m 10, hN (lP L k) m 11, hN (lP L k) m 12, hN (lP L k) m 13, hN (lP L k) m 14, hN (lP L k) m 15, hN (lP L k) m 16, hN (lP L k) m 17, hN (lP L k) m 18, hN (lP L k) m 19, hN (lP L k) m 20, hN (lP L k) m 21, hN (lP L k) m 22, hN (lP L k) m 23, hN (lP L k) m 24, hN (lP L k) m 25, hN (lP L k) m 26, hN (lP L k) m 27, hN (lP L k) m 28, hN (lP L k) m 29, hN (lP L k) m 30, hN (lP L k) m 31]).length = 32 := by rw [e1]; exact e2
        refine Need.mk trivial fun _ => ?_
        refine Need.mk (show (l2.length : Int) + (hashOf [hN (lP L k) m 0, hN (lP L k) m 1, hN (lP L k) m 2, hN (lP L k) m 3, hN (lP L k) m 4, hN (lP L k) m 5, hN (lP L k) m 6, hN (lP L k) m 7, hN (lP L k) m 8, hN (lP L k) m 9, hN (lP L k) m 10, hN (lP L k) m 11, hN (lP L k) m 12, hN (lP L k) m 13, hN (lP L k) m 14, hN (lP L k) m 15, hN (lP L k) m 16, hN (lP L k) m 17, hN (lP L k) m 18, hN (lP L k) m 19, hN (lP L k) m 20, hN (lP L k) m 21, hN (lP L k) m 22, hN (lP L k) m 23, hN (lP L k) m 24, hN (lP L k) m 25, hN (lP L k) m 26, hN (lP L k) m 27, hN (lP L k) m 28, hN (lP L k) m 29, hN (lP L k) m 30, hN (lP L k) m 31]).length ≤ 9223372036854775807 by rw [e3]; omega) fun _ => ?_
        refine Need.mk (by show fitStd .i64 ((m : Int) + 1); unfold fitStd; omega) fun _ => ?_
        refine ⟨⟨(m : Int) + 1, m + 1, l2 ++ hashOf [hN (lP L k) m 0, hN (lP L k) m 1, hN (lP L k) m 2, hN (lP L k) m 3, hN (lP L k) m 4, hN (lP L k) m 5, hN (lP L k) m 6, hN (lP L k) m 7, hN (lP L k) m 8, hN (lP L k) m 9, hN (lP L k) m 10, hN (lP L k) m 11, hN (lP L k) m 12, hN (lP L k) m 13, hN (lP L k) m 14, hN (lP L k) m 15, hN (lP L k) m 16, hN (lP L k) m 17, hN (lP L k) m 18, hN (lP L k) m 19, hN (lP L k) m 20, hN (lP L k) m 21, hN (lP L k) m 22, hN (lP L k) m 23, hN (lP L k) m 24, hN (lP L k) m 25, hN (lP L k) m 26, hN (lP L k) m 27, hN (lP L k) m 28, hN (lP L k) m 29, hN (lP L k) m 30, hN (lP L k) m 31], by omega, by omega, ?w⟩, [0, 1, 2, 3], (by show (lP L k).length - (m + 1) < (lP L k).length - m; omega), ?st⟩
        case st =>
          refine ⟨rfl, by show List.Nodup [1, 3]; decide, by repeat' (first | exact trivial | exact rfl | apply And.intro | exact (fun _ _ _ _ => Cell.le_refl _) | (intro i hi; rfl) | (intro i hi; exact absurd hi (Nat.not_lt_zero _))), ?_⟩
          repeat' (first | exact trivial | exact rfl | apply And.intro | exact (fun _ _ _ _ => Cell.le_refl _) | (intro i hi; rfl) | (intro i hi; exact absurd hi (Nat.not_lt_zero _)))
        case w =>
          rw [flatE_take hashOf hm3, e1, w2, List.getD_eq_getElem?_getD, List.getElem?_eq_getElem hm3]
          simp
      · replace hlt2 : ¬ (m : Int) < @Nat.cast Int instNatCastInt (lN L k) := of_decide_eq_false (p := (m : Int) < (lN L k : Int)) hlt2
        refine Need.mk (by show fitStd .i64 ((k : Int) + 1); unfold fitStd; omega) fun _ => ?_
        refine ⟨⟨(k : Int) + 1, k + 1, l2, by omega, by omega, ?w⟩, [0, 1], (by show L.length - (k + 1) < L.length - k; omega), ?st⟩
        case st =>
          refine ⟨rfl, by show List.Nodup [1]; decide, by repeat' (first | exact trivial | exact rfl | apply And.intro | exact (fun _ _ _ _ => Cell.le_refl _) | (intro i hi; rfl) | (intro i hi; exact absurd hi (Nat.not_lt_zero _))), ?_⟩
          repeat' (first | exact trivial | exact rfl | apply And.intro | exact (fun _ _ _ _ => Cell.le_refl _) | (intro i hi; rfl) | (intro i hi; exact absurd hi (Nat.not_lt_zero _)))
        case w =>
          rw [List.take_of_length_le (by omega)] at w2
          rw [flatE_take leafB hk, w2, w, ← hy]
          simp [leafB, hlp]
    · replace hlt : ¬ (k : Int) < @Nat.cast Int instNatCastInt n := of_decide_eq_false (p := (k : Int) < (n : Int)) hlt
      rw [List.take_of_length_le (by omega)] at w
      have hw : proofB (c, L) = l' := by
        rw [w]
        simp [proofB, hn0]
      rw [hw]
      exact ⟨[0], ⟨rfl, by repeat' (first | exact trivial | exact rfl | apply And.intro | exact (fun _ _ _ _ => Cell.le_refl _) | (intro i hi; rfl) | (intro i hi; exact absurd hi (Nat.not_lt_zero _))), by decide, rfl, by repeat' (first | exact trivial | exact rfl | apply And.intro | exact (fun _ _ _ _ => Cell.le_refl _) | (intro i hi; rfl) | (intro i hi; exact absurd hi (Nat.not_lt_zero _)))⟩⟩

end Go.Proofs.YthomoliklfmnkaaDoor.Vx
end

section
/- Messages read, by the walker. -/
namespace Go.Proofs.YthomoliklfmnkaaDoor.Vx
open Go.RowKit
set_option linter.unusedVariables false
set_option linter.unusedSimpArgs false


end Go.Proofs.YthomoliklfmnkaaDoor.Vx
end
