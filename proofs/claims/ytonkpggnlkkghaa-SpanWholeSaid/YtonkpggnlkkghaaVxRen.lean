/- A loop whose round leaves the entries at other numbers. -/
import Derived.Test.YtonkpggnlkkghaaVxUse
namespace Go.Proofs.Ytonkpggnlkkghaa.Vx
open Go.RowKit
set_option linter.unusedVariables false
set_option linter.unusedSimpArgs false

def renC (σ : List Nat) : CV → CV
  | .ptr k o => .ptr (σ.getD k 0) o
  | .row k => .row (σ.getD k 0)
  | .sl k a b c => .sl (σ.getD k 0) a b c
  | .eptr k i s o => .eptr (σ.getD k 0) i s o
  | .aptr k i s o => .aptr (σ.getD k 0) i s o
  | .vsl k i s o => .vsl (σ.getD k 0) i s o
  | x => x
def renL (σ : List Nat) : List CV → List CV
  | [] => []
  | x :: xs => renC σ x :: renL σ xs
def renS (σ : List Nat) : SV → SV
  | .c x => .c (renC σ x)
  | .agg cs => .agg (renL σ cs)
  | x => x
def pick (σ : List Nat) (ρ : List Pl) : List Pl := σ.map fun k => ρ.getD k ⟨0, undef, 0⟩

theorem pick_get {σ : List Nat} {ρ : List Pl} {k i : Nat} {p : Pl} (hk : σ[k]? = some i) (hp : ρ[i]? = some p) : (pick σ ρ)[k]? = some p := by
  unfold pick
  rw [List.getElem?_map, hk]
  simp [List.getD, hp]
theorem getD_of {σ : List Nat} {k : Nat} (h : Nat.blt k σ.length = true) : σ[k]? = some (σ.getD k 0) := by
  have h : k < σ.length := by simpa [Nat.blt_eq] using h
  simp [List.getD, h]
theorem den_pick {ρ : List Pl} {σ : List Nat} {x : CV} {u : Value} (hs : cvSc σ.length x = true) (h : (renC σ x).den ρ = some u) : x.den (pick σ ρ) = some u := by
  cases x with
  | ptr k off =>
    simp only [renC, CV.den] at h ⊢
    cases hk : ρ[σ.getD k 0]? with
    | none => rw [hk] at h; cases h
    | some p => rw [hk] at h; rw [pick_get (getD_of hs) hk]; exact h
  | row k =>
    simp only [renC, CV.den] at h ⊢
    cases hk : ρ[σ.getD k 0]? with
    | none => rw [hk] at h; cases h
    | some p => rw [hk] at h; rw [pick_get (getD_of hs) hk]; exact h
  | sl k off len cap =>
    simp only [renC, CV.den] at h ⊢
    cases hk : ρ[σ.getD k 0]? with
    | none => rw [hk] at h; cases h
    | some p => rw [hk] at h; rw [pick_get (getD_of hs) hk]; exact h
  | eptr k i sz off =>
    simp only [renC, CV.den] at h ⊢
    cases hk : ρ[σ.getD k 0]? with
    | none => rw [hk] at h; cases h
    | some p => rw [hk] at h; rw [pick_get (getD_of hs) hk]; exact h
  | aptr k i off m =>
    simp only [renC, CV.den] at h ⊢
    cases hk : ρ[σ.getD k 0]? with
    | none => rw [hk] at h; cases h
    | some p => rw [hk] at h; rw [pick_get (getD_of hs) hk]; exact h
  | vsl k i off m =>
    simp only [renC, CV.den] at h ⊢
    cases hk : ρ[σ.getD k 0]? with
    | none => rw [hk] at h; cases h
    | some p => rw [hk] at h; rw [pick_get (getD_of hs) hk]; exact h
  | _ => exact h
theorem isL_pick {ρ : List Pl} {σ : List Nat} : ∀ {xs : List CV} {us : List Value}, cvsSc σ.length xs = true → IsL ρ (renL σ xs) us → IsL (pick σ ρ) xs us
  | [], us, _, k => k
  | x :: xs, us, hs, k => by
    simp only [cvsSc] at hs
    split at hs
    · rename_i hx
      cases us with
      | nil => simp [IsL, renL] at k
      | cons u us =>
        simp only [IsL, renL, List.map_cons, List.cons.injEq] at k
        exact IsL.cons (den_pick hx k.1) (isL_pick hs k.2)
    · cases hs
theorem sv_pick {ρ : List Pl} {σ : List Nat} {x y : SV} {u : Value} (hs : svSc σ.length y = true) (hl : svLe x (renS σ y)) (h : x.is ρ u) : y.is (pick σ ρ) u := by
  have key : svSame x (renS σ y) → y.is (pick σ ρ) u := fun hsame => by
    have h2 := svSame_ok hsame h
    cases y with
    | c y => exact den_pick hs h2
    | agg cs => obtain ⟨vs, g1, g2⟩ := h2; exact ⟨vs, isL_pick hs g1, g2⟩
    | tup vs => cases hs
    | und => exact h2
    | any => trivial
  cases y with
  | any => trivial
  | und =>
    cases x <;> first | exact h | exact hl.elim
  | c y => exact key (by cases x <;> first | exact hl | exact hl.elim)
  | agg cs => exact key (by cases x <;> first | exact hl | exact hl.elim)
  | tup vs => cases hs
def tLeR (σ : List Nat) : List SV → List SV → Prop
  | [], [] => True
  | x :: xs, y :: ys => svSc σ.length y = true ∧ svLe x (renS σ y) ∧ tLeR σ xs ys
  | _, _ => False
theorem t_pick {ρ : List Pl} {σ : List Nat} : ∀ {xs ys : List SV} {us : List Value}, tLeR σ xs ys → IsS ρ xs us → IsS (pick σ ρ) ys us
  | [], [], us, _, k => k
  | x :: xs, y :: ys, us, h, k => by
    obtain ⟨u, us', rfl, h1, h2⟩ := k
    exact ⟨u, us', rfl, sv_pick h.1 h.2.1 h1, t_pick h.2.2 h2⟩
  | [], _ :: _, _, h, _ => h.elim
  | _ :: _, [], _, h, _ => h.elim
def entLeR (σ : List Nat) : Ent → Ent → Prop
  | _, .dead => True
  | .cells t cs, .cells t' cs' => t = t' ∧ cvsSc σ.length cs' = true ∧ cvsSame cs (renL σ cs')
  | .bytes e l, .bytes e' l' => e = e' ∧ l = l'
  | .row e s m g, .row e' s' m' g' => e = e' ∧ s = s' ∧ m = m' ∧ (∀ i, i < m' → g i = g' i)
  | .elems t s m g, .elems t' s' m' g' => t = t' ∧ s = s' ∧ m = m' ∧ g = g'
  | .glob t s m g, .glob t' s' m' g' => t = t' ∧ s = s' ∧ m = m' ∧ g = g'
  | _, _ => False
theorem entLeR_ok {ρ : List Pl} {σ : List Nat} {x y : Ent} {p : Pl} {W : World} (h : entLeR σ x y) (k : x.ok ρ p W) : y.ok (pick σ ρ) p W ∧ (∀ b, y.fp p = some b → x.fp p = some b) ∧ (y.isElems = true → x = y) := by
  unfold entLeR at h
  split at h
  · exact ⟨trivial, (fun _ h => by cases h), (fun h => by cases h)⟩
  · obtain ⟨rfl, h2, h3⟩ := h
    obtain ⟨vs, g1, g2⟩ := k
    exact ⟨⟨vs, isL_pick h2 (cvsSame_ok h3 g1), g2⟩, fun _ h => h, (fun h => by cases h)⟩
  · obtain ⟨rfl, rfl⟩ := h
    exact ⟨k, fun _ h => h, (fun h => by cases h)⟩
  · obtain ⟨rfl, rfl, rfl, h4⟩ := h
    exact ⟨Ent.row_same h4 k, fun _ h => h, (fun h => by cases h)⟩
  · obtain ⟨rfl, rfl, rfl, rfl⟩ := h
    exact ⟨k, fun _ h => h, fun _ => rfl⟩
  · obtain ⟨rfl, rfl, rfl, rfl⟩ := h
    exact ⟨k, fun _ h => h, fun _ => rfl⟩
  · exact h.elim
def hLeR (σ : List Nat) (h : List Ent) : List Nat → List Ent → Prop
  | [], [] => True
  | k :: ks, y :: ys => (match h[k]? with
    | some x => entLeR σ x y
    | none => False) ∧ hLeR σ h ks ys
  | _, _ => False
theorem hLeR_get {σ : List Nat} {h : List Ent} : ∀ {ks : List Nat} {ys : List Ent}, hLeR σ h ks ys → ys.length = ks.length ∧ ∀ (k : Nat) (y : Ent), ys[k]? = some y → ∃ i x, ks[k]? = some i ∧ h[i]? = some x ∧ entLeR σ x y
  | [], [], _ => ⟨rfl, fun k y h => by simp at h⟩
  | i :: ks, y :: ys, hl => by
    have ih := hLeR_get hl.2
    refine ⟨by simpa using ih.1, fun k z hz => ?_⟩
    cases k with
    | zero =>
      simp at hz
      subst hz
      have h1 := hl.1
      split at h1
      · rename_i x hx
        exact ⟨i, x, rfl, hx, h1⟩
      · exact h1.elim
    | succ k => simpa using ih.2 k z (by simpa using hz)
  | [], _ :: _, hl => hl.elim
  | _ :: _, [], hl => hl.elim

theorem Rel.pick {w0 : World} {G : List Nat} {ρ : List Pl} {h h' : List Ent} {σ : List Nat} {W : World} (r : Rel w0 G ρ h W) (hl : hLeR σ h σ h') (hd : σ.Nodup) : Rel w0 G (pick σ ρ) h' W := by
  obtain ⟨hn, hg⟩ := hLeR_get hl
  have hpl : ∀ {k i : Nat} {p : Pl} {x : Ent}, σ[k]? = some i → h[i]? = some x → (Vx.pick σ ρ)[k]? = some p → ρ[i]? = some p := fun {k i p x} hk hx hp => by
    have hi : i < ρ.length := by rw [r.len]; exact (List.getElem?_eq_some_iff.1 hx).1
    have := pick_get hk (List.getElem?_eq_getElem hi)
    rw [this] at hp
    rw [List.getElem?_eq_getElem hi]
    exact hp
  have hfp : ∀ k b, fp (Vx.pick σ ρ) h' k = some b → ∃ i, σ[k]? = some i ∧ fp ρ h i = some b := fun k b hf => by
    obtain ⟨e, p, he, hp, hx⟩ := fp_some hf
    obtain ⟨i, x, h0, h1, h2⟩ := hg k e he
    refine ⟨i, h0, ?_⟩
    rw [fp_mk h1 (hpl h0 h1 hp)]
    exact (entLeR_ok h2 (r.ok i x p h1 (hpl h0 h1 hp))).2.1 b hx
  refine ⟨by simp [Vx.pick, hn], fun k e p he hp => ?_, fun k b hf => ?_, fun j k b hj hk => ?_, r.kept, fun k e p b he hp h1 h2 => ?_, r.os, r.tape, r.output, r.size⟩
  · obtain ⟨i, x, g0, g1, g2⟩ := hg k e he
    exact (entLeR_ok g2 (r.ok i x p g1 (hpl g0 g1 hp))).1
  · obtain ⟨i, _, hi⟩ := hfp k b hf
    exact r.own i b hi
  · obtain ⟨i, a1, a2⟩ := hfp j b hj
    obtain ⟨i', b1, b2⟩ := hfp k b hk
    have := r.dis i i' b a2 b2
    subst this
    have hj' := (List.getElem?_eq_some_iff.1 a1)
    have hk' := (List.getElem?_eq_some_iff.1 b1)
    obtain ⟨x1, x2⟩ := hj'
    obtain ⟨y1, y2⟩ := hk'
    rcases Nat.lt_trichotomy j k with hlt | heq | hlt
    · exact absurd (x2.trans y2.symm) (List.pairwise_iff_getElem.1 hd j k x1 y1 hlt)
    · exact heq
    · exact absurd (y2.trans x2.symm) (List.pairwise_iff_getElem.1 hd k j y1 x1 hlt)
  · obtain ⟨i, x, g0, g1, g2⟩ := hg k e he
    have := (entLeR_ok g2 (r.ok i x p g1 (hpl g0 g1 hp))).2.2 h1
    subst this
    exact r.ro i x p b g1 (hpl g0 g1 hp) h1 h2

theorem pick_split {σ : List Nat} {a b : List Pl} {m : Nat} (ha : a.length = m) (h : σ.take m = List.range m) : ∃ c, pick σ (a ++ b) = a ++ c := by
  refine ⟨pick (σ.drop m) (a ++ b), ?_⟩
  have e : pick σ (a ++ b) = pick (σ.take m) (a ++ b) ++ pick (σ.drop m) (a ++ b) := by
    unfold pick
    rw [← List.map_append, List.take_append_drop]
  rw [e, h]
  congr 1
  apply List.ext_getElem
  · simp [pick, ha]
  · intro i h1 h2
    simp [pick, List.getD, h2]
    rw [List.getElem?_append_left h2, List.getElem?_eq_getElem h2]
    rfl

/-- After a round the state is S y, but for the numbers of the entries. -/
structure StLeR (σ : List Nat) (m : Nat) (st s : St) : Prop where
  m : σ.take m = List.range m
  d : σ.Nodup
  t : tLeR σ st.t s.t
  h : hLeR σ st.h σ s.h

theorem loop_ruleR {P : Program} {N : Env} (hA : N.A = .std) (hE : N.E.Ok P) (hC : CtsOk P N.C) {m : Nat} (hL : ∀ c st K, codeOk N.R c = true → N.L c st K → Runs P m (.loop c) st K) (hm : P.follows .mixedOrders = true) (M : List Nat)
    {c : Code} {st : St} {K : Ex → St → Prop} {X : Type} (S : X → St) (μ : X → Nat) (x0 : X) (hc : codeOk N.R c = true) (σ0 : List Nat) (h0 : StLeR σ0 m st (S x0))
    (round : ∀ x, exec N M c (S x) fun e st' => match e with
      | .normal => ∃ y σ, μ y < μ x ∧ StLeR σ m st' (S y)
      | e => K e st') : Runs P m (.loop c) st K := by
  refine ⟨fun w0 G ρb ρ1 a W hρ r hs hd => ?_⟩
  refine wp_loop_ghost (fun n a W => ∃ x ρ', μ x = n ∧ Rel w0 G (ρb ++ ρ') (S x).h W ∧ IsS (ρb ++ ρ') (S x).t a.tmps.toList ∧ a.defers = []) (μ x0) ?_ ?_
  · obtain ⟨c1, hc1⟩ := pick_split (b := ρ1) hρ h0.m
    exact ⟨x0, c1, rfl, by rw [← hc1]; exact r.pick h0.h h0.d, by rw [← hc1]; exact t_pick h0.t hs, hd⟩
  · rintro n a W ⟨x, ρ', rfl, r', hs', hd'⟩
    refine Code.wp_mono (fun e a W hq => ?_) ((exec_ok hA hE hC hL hm M c _ _ hc (round x)).run w0 G ρb ρ' a W hρ r' hs' hd')
    obtain ⟨ex, st', ρ2, he, r2, hs2, hd2, hk⟩ := hq
    cases ex with
    | normal =>
      cases e <;> try exact (show False from he).elim
      obtain ⟨y, σ, hy, hle⟩ := hk
      obtain ⟨c1, hc1⟩ := pick_split (b := ρ2) hρ hle.m
      exact ⟨μ y, hy, y, c1, rfl, by rw [← hc1]; exact r2.pick hle.h hle.d, by rw [← hc1]; exact t_pick hle.t hs2, hd2⟩
    | exit i =>
      cases e <;> try exact (show False from he).elim
      exact ⟨.exit i, st', ρ2, he, r2, hs2, hd2, hk⟩
    | ret =>
      cases e <;> try exact (show False from he).elim
      exact ⟨.ret, st', ρ2, he, r2, hs2, hd2, hk⟩
end Go.Proofs.Ytonkpggnlkkghaa.Vx
