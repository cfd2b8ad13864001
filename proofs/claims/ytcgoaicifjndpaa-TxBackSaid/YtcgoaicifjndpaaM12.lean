/- Functions that read slices, wherever in their arguments the slices lie. -/
import Derived.Test.YtcgoaicifjndpaaM11
section
namespace Go.Proofs.Ytcgoaicifjndpaa.Vx
open Go.RowKit
set_option linter.unusedVariables false
set_option linter.unusedSimpArgs false

/-- How many elements, and what they are. -/
abbrev View := Nat × (Nat → List CV)

/-- The elements of a slice. -/
noncomputable def viewC (sz : Nat) (h : List Ent) : CV → Option View
  | .row k => match (h[k]?).bind Ent.view with
    | some (sz', n, get) => match Nat.beq sz sz' with
      | true => some (n, get)
      | false => none
    | none => none
  | .vsl k lo n sz' => match (h[k]?).bind Ent.view with
    | some (sz2, m, get) => match Nat.beq sz sz' && Nat.beq sz sz2 with
      | true => some (n, fun i => get (lo + i))
      | false => none
    | none => none
  | .sl k off len cap => match h[k]? with
    | some (.cells t cs) => match pfs cs && Nat.ble (off + len * sz) cs.length && Nat.ble len cap with
      | true => some (len, cutC sz cs off)
      | false => none
    | _ => none
  | .val (.slice none 0 0) => some (0, fun _ => [])
  | _ => none

/-- A place at which the elements lie. -/
structure Good (W : World) (sz : Nat) (v : View) (p : Pl) : Prop where
  sl : ∃ a cap, p.v = .slice a v.1 cap ∧ v.1 ≤ cap ∧ (0 < v.1 → a = some ⟨p.b, p.o, none⟩)
  lt : 0 < v.1 → p.b < W.heap.size
  get : ∀ i, i < v.1 → ∃ vs, IsL [] (v.2 i) vs ∧ ∀ j w, vs[j]? = some w → W.cell? ⟨p.b, p.o + i * sz + j, none⟩ = some w

theorem view_dep {ρ : List Pl} {en : Ent} {p : Pl} {W : World} {sz n : Nat} {get : Nat → List CV} (hen : en.view = some (sz, n, get)) (h : en.ok ρ p W) (hn : 0 < n) : en.dep p = some p.b := by
  obtain ⟨⟨a, cap, hpv, _, ha⟩, _⟩ := Ent.view_ok hen h
  cases en with
  | elems t sz' n' get' => cases hen; simp [Ent.dep, hn]
  | row t sz' n' get' => cases hen; simp [Ent.dep, hpv, ha hn, Value.ownBlock]
  | bytes t l => cases hen; simp [Ent.dep, hpv, ha hn, Value.ownBlock]
  | cells t cs => cases hen
  | glob g sz n get => cases hen
  | data fr ty sz n get => cases hen
  | orow ty sz n get => cases hen
  | dead => cases hen
  | mp gs l => cases hen
  | mq t l => cases hen
/-- A part of a row is a place at which elements lie. -/
theorem view_sub {w0 W : World} {G : Gs} {ρ : List Pl} {h : List Ent} {sz m lo n m' cap k : Nat} {a : Option Addr} {en : Ent} {get : Nat → List CV} {p : Pl} (hen : en.view = some (sz, m, get)) (rel : Rel w0 G ρ h W) (hk : h[k]? = some en) (hpk : ρ[k]? = some p)
    (hpv : p.v = .slice a m' cap) (hm : lo + n ≤ m') : ∃ q : Pl, q.v = .slice (if cap = lo then a else a.map (·.add (lo * sz))) n (cap - lo) ∧ Good W sz (n, fun i => get (lo + i)) q ∧ q.b = p.b := by
  have hok := rel.ok k _ p hk hpk
  obtain ⟨rfl, hc, ha⟩ := view_part hen hok hpv hm
  obtain ⟨_, hget⟩ := Ent.view_ok hen hok
  refine ⟨⟨p.b, _, p.o + lo * sz⟩, rfl, ⟨⟨_, _, rfl, by show n ≤ cap - lo; omega, ha⟩, fun h0 => rel.dep_lt hk hpk (b := p.b) (view_dep hen hok (by have : 0 < n := h0; omega)), fun i hi => ?_⟩, rfl⟩
  have hi : i < n := hi
  obtain ⟨vs, h1, h2⟩ := hget (lo + i) (by omega)
  refine ⟨vs, h1, fun j w hj => ?_⟩
  have := h2 j w hj
  rw [show p.o + (lo + i) * sz + j = p.o + lo * sz + i * sz + j by rw [Nat.add_mul]; omega] at this
  exact this












end Go.Proofs.Ytcgoaicifjndpaa.Vx
end

section
/- A loop whose round leaves the entries at other numbers. -/
namespace Go.Proofs.Ytcgoaicifjndpaa.Vx
open Go.RowKit
set_option linter.unusedVariables false
set_option linter.unusedSimpArgs false

def renC (σ : List Nat) : CV → CV
  | .ptr k o => .ptr (σ.getD k 0) o
  | .row k => .row (σ.getD k 0)
  | .sl k a b c => .sl (σ.getD k 0) a b c
  | .eptr k i s o => .eptr (σ.getD k 0) i s o
  | .aptr k i s o => .aptr (σ.getD k 0) i s o
  | .vsl k i s o => .vsl (σ.getD k 0) i s o
  | x => x
def renL (σ : List Nat) : List CV → List CV
  | [] => []
  | x :: xs => renC σ x :: renL σ xs
def renS (σ : List Nat) : SV → SV
  | .c x => .c (renC σ x)
  | .agg cs => .agg (renL σ cs)
  | .fn f cs => .fn f (renL σ cs)
  | x => x
def pick (σ : List Nat) (ρ : List Pl) : List Pl := σ.map fun k => ρ.getD k ⟨0, undef, 0⟩

theorem pick_get {σ : List Nat} {ρ : List Pl} {k i : Nat} {p : Pl} (hk : σ[k]? = some i) (hp : ρ[i]? = some p) : (pick σ ρ)[k]? = some p := by
  unfold pick
  rw [List.getElem?_map, hk]
  simp [List.getD, hp]
theorem getD_of {σ : List Nat} {k : Nat} (h : Nat.blt k σ.length = true) : σ[k]? = some (σ.getD k 0) := by
  have h : k < σ.length := by simpa [Nat.blt_eq] using h
  simp [List.getD, h]
theorem den_pick {ρ : List Pl} {σ : List Nat} {x : CV} {u : Value} (hs : cvSc σ.length x = true) (h : (renC σ x).den ρ = some u) : x.den (pick σ ρ) = some u := by
  cases x with
  | ptr k off =>
    simp only [renC, CV.den] at h ⊢
    cases hk : ρ[σ.getD k 0]? with
    | none => rw [hk] at h; cases h
    | some p => rw [hk] at h; rw [pick_get (getD_of hs) hk]; exact h
  | row k =>
    simp only [renC, CV.den] at h ⊢
    cases hk : ρ[σ.getD k 0]? with
    | none => rw [hk] at h; cases h
    | some p => rw [hk] at h; rw [pick_get (getD_of hs) hk]; exact h
  | sl k off len cap =>
    simp only [renC, CV.den] at h ⊢
    cases hk : ρ[σ.getD k 0]? with
    | none => rw [hk] at h; cases h
    | some p => rw [hk] at h; rw [pick_get (getD_of hs) hk]; exact h
  | eptr k i sz off =>
    simp only [renC, CV.den] at h ⊢
    cases hk : ρ[σ.getD k 0]? with
    | none => rw [hk] at h; cases h
    | some p => rw [hk] at h; rw [pick_get (getD_of hs) hk]; exact h
  | aptr k i off m =>
    simp only [renC, CV.den] at h ⊢
    cases hk : ρ[σ.getD k 0]? with
    | none => rw [hk] at h; cases h
    | some p => rw [hk] at h; rw [pick_get (getD_of hs) hk]; exact h
  | vsl k i off m =>
    simp only [renC, CV.den] at h ⊢
    cases hk : ρ[σ.getD k 0]? with
    | none => rw [hk] at h; cases h
    | some p => rw [hk] at h; rw [pick_get (getD_of hs) hk]; exact h
  | _ => exact h
theorem isL_pick {ρ : List Pl} {σ : List Nat} : ∀ {xs : List CV} {us : List Value}, cvsSc σ.length xs = true → IsL ρ (renL σ xs) us → IsL (pick σ ρ) xs us
  | [], us, _, k => k
  | x :: xs, us, hs, k => by
    simp only [cvsSc] at hs
    split at hs
    · rename_i hx
      cases us with
      | nil => simp [IsL, renL] at k
      | cons u us =>
        simp only [IsL, renL, List.map_cons, List.cons.injEq] at k
        exact IsL.cons (den_pick hx k.1) (isL_pick hs k.2)
    · cases hs
theorem sv_pick {ρ : List Pl} {σ : List Nat} {x y : SV} {u : Value} (hs : svSc σ.length y = true) (hl : svLe x (renS σ y)) (h : x.is ρ u) : y.is (pick σ ρ) u := by
  have key : svSame x (renS σ y) → y.is (pick σ ρ) u := fun hsame => by
    have h2 := svSame_ok hsame h
    cases y with
    | c y => exact den_pick hs h2
    | agg cs => obtain ⟨vs, g1, g2⟩ := h2; exact ⟨vs, isL_pick hs g1, g2⟩
    | tup vs => cases hs
    | und => exact h2
    | any => trivial
    | fn f cs => obtain ⟨vs, g1, g2⟩ := h2; exact ⟨vs, isL_pick hs g1, g2⟩
  cases y with
  | any => trivial
  | und =>
    cases x <;> first | exact h | exact hl.elim
  | c y => exact key (by cases x <;> first | exact hl | exact hl.elim)
  | agg cs => exact key (by cases x <;> first | exact hl | exact hl.elim)
  | fn f cs => exact key (by cases x <;> first | exact hl | exact hl.elim)
  | tup vs => cases hs
def tLeR (σ : List Nat) : List SV → List SV → Prop
  | [], [] => True
  | x :: xs, y :: ys => svSc σ.length y = true ∧ svLe x (renS σ y) ∧ tLeR σ xs ys
  | _, _ => False
theorem t_pick {ρ : List Pl} {σ : List Nat} : ∀ {xs ys : List SV} {us : List Value}, tLeR σ xs ys → IsS ρ xs us → IsS (pick σ ρ) ys us
  | [], [], us, _, k => k
  | x :: xs, y :: ys, us, h, k => by
    obtain ⟨u, us', rfl, h1, h2⟩ := k
    exact ⟨u, us', rfl, sv_pick h.1 h.2.1 h1, t_pick h.2.2 h2⟩
  | [], _ :: _, _, h, _ => h.elim
  | _ :: _, [], _, h, _ => h.elim
def entLeR (σ : List Nat) : Ent → Ent → Prop
  | _, .dead => True
  | .data fr t s m g, .data fr' t' s' m' g' => fr = fr' ∧ t = t' ∧ s = s' ∧ m = m' ∧ (∀ i j, i < m' → j < s' → Cell.le (g i j) (g' i j))
  | .orow t s m g, .orow t' s' m' g' => t = t' ∧ s = s' ∧ m = m' ∧ (∀ i j, i < m' → j < s' → Cell.le (g i j) (g' i j))
  | .cells t cs, .cells t' cs' => t = t' ∧ cvsSc σ.length cs' = true ∧ cvsSame cs (renL σ cs')
  | .bytes e l, .bytes e' l' => e = e' ∧ l = l'
  | .row e s m g, .row e' s' m' g' => e = e' ∧ s = s' ∧ m = m' ∧ (∀ i, i < m' → g i = g' i)
  | .elems t s m g, .elems t' s' m' g' => t = t' ∧ s = s' ∧ m = m' ∧ g = g'
  | .glob t s m g, .glob t' s' m' g' => t = t' ∧ s = s' ∧ m = m' ∧ g = g'
  | .mp g l, .mp g' l' => g = g' ∧ l = l'
  | .mq t l, .mq t' l' => t = t' ∧ l = l'
  | _, _ => False
theorem entLeR_ok {ρ : List Pl} {σ : List Nat} {x y : Ent} {p : Pl} {W : World} (h : entLeR σ x y) (k : x.ok ρ p W) : y.ok (pick σ ρ) p W ∧ (∀ b, y.fp p = some b → x.fp p = some b) := by
  unfold entLeR at h
  split at h
  · exact ⟨trivial, (fun _ h => by cases h)⟩
  · obtain ⟨rfl, rfl, rfl, rfl, h4⟩ := h
    exact ⟨k, fun _ h => h⟩
  · obtain ⟨rfl, rfl, rfl, h4⟩ := h
    exact ⟨k, fun _ h => h⟩
  · obtain ⟨rfl, h2, h3⟩ := h
    obtain ⟨vs, g1, g2⟩ := k
    exact ⟨⟨vs, isL_pick h2 (cvsSame_ok h3 g1), g2⟩, fun _ h => h⟩
  · obtain ⟨rfl, rfl⟩ := h
    exact ⟨k, fun _ h => h⟩
  · obtain ⟨rfl, rfl, rfl, h4⟩ := h
    exact ⟨Ent.row_same h4 k, fun _ h => h⟩
  · obtain ⟨rfl, rfl, rfl, rfl⟩ := h
    exact ⟨k, fun _ h => h⟩
  · obtain ⟨rfl, rfl, rfl, rfl⟩ := h
    exact ⟨k, fun _ h => h⟩
  · obtain ⟨rfl, rfl⟩ := h
    exact ⟨k, fun _ h => h⟩
  · obtain ⟨rfl, rfl⟩ := h
    exact ⟨k, fun _ h => h⟩
  · exact h.elim
theorem entLeR_dat {σ : List Nat} {x y : Ent} {p : Pl} {W : World} {D : Bool → Nat → Prop} (h : entLeR σ x y) (k : x.dat W D p) : y.dat W D p := by
  unfold entLeR at h
  split at h
  · trivial
  · obtain ⟨rfl, rfl, rfl, rfl, h4⟩ := h
    exact Ent.dat_data_le h4 k
  · obtain ⟨rfl, rfl, rfl, h4⟩ := h
    exact Ent.dat_orow_le h4 k
  · trivial
  · trivial
  · trivial
  · obtain ⟨rfl, rfl, rfl, rfl⟩ := h
    exact k
  · obtain ⟨rfl, rfl, rfl, rfl⟩ := h
    exact k
  · obtain ⟨rfl, rfl⟩ := h
    exact k
  · obtain ⟨rfl, rfl⟩ := h
    exact k
  · exact h.elim
def hLeR (σ : List Nat) (h : List Ent) : List Nat → List Ent → Prop
  | [], [] => True
  | k :: ks, y :: ys => (match h[k]? with
    | some x => entLeR σ x y
    | none => False) ∧ hLeR σ h ks ys
  | _, _ => False
theorem hLeR_get {σ : List Nat} {h : List Ent} : ∀ {ks : List Nat} {ys : List Ent}, hLeR σ h ks ys → ys.length = ks.length ∧ ∀ (k : Nat) (y : Ent), ys[k]? = some y → ∃ i x, ks[k]? = some i ∧ h[i]? = some x ∧ entLeR σ x y
  | [], [], _ => ⟨rfl, fun k y h => by simp at h⟩
  | i :: ks, y :: ys, hl => by
    have ih := hLeR_get hl.2
    refine ⟨by simpa using ih.1, fun k z hz => ?_⟩
    cases k with
    | zero =>
      simp at hz
      subst hz
      have h1 := hl.1
      split at h1
      · rename_i x hx
        exact ⟨i, x, rfl, hx, h1⟩
      · exact h1.elim
    | succ k => simpa using ih.2 k z (by simpa using hz)
  | [], _ :: _, hl => hl.elim
  | _ :: _, [], hl => hl.elim

theorem Rel.pick {w0 : World} {G : Gs} {ρ : List Pl} {h h' : List Ent} {σ : List Nat} {W : World} (r : Rel w0 G ρ h W) (hl : hLeR σ h σ h') (hd : σ.Nodup) : Rel w0 G (pick σ ρ) h' W := by
  obtain ⟨hn, hg⟩ := hLeR_get hl
  have hpl : ∀ {k i : Nat} {p : Pl} {x : Ent}, σ[k]? = some i → h[i]? = some x → (Vx.pick σ ρ)[k]? = some p → ρ[i]? = some p := fun {k i p x} hk hx hp => by
    have hi : i < ρ.length := by rw [r.len]; exact (List.getElem?_eq_some_iff.1 hx).1
    have := pick_get hk (List.getElem?_eq_getElem hi)
    rw [this] at hp
    rw [List.getElem?_eq_getElem hi]
    exact hp
  have hfp : ∀ k b, fp (Vx.pick σ ρ) h' k = some b → ∃ i, σ[k]? = some i ∧ fp ρ h i = some b := fun k b hf => by
    obtain ⟨e, p, he, hp, hx⟩ := fp_some hf
    obtain ⟨i, x, h0, h1, h2⟩ := hg k e he
    refine ⟨i, h0, ?_⟩
    rw [fp_mk h1 (hpl h0 h1 hp)]
    exact (entLeR_ok h2 (r.ok i x p h1 (hpl h0 h1 hp))).2 b hx
  refine ⟨by simp [Vx.pick, hn], fun k e p he hp => ?_, fun k b hf => ?_, fun j k b hj hk => ?_, r.kept, fun k e p he hp => ?_, r.os, r.tape, r.output, r.size⟩
  · obtain ⟨i, x, g0, g1, g2⟩ := hg k e he
    exact (entLeR_ok g2 (r.ok i x p g1 (hpl g0 g1 hp))).1
  · obtain ⟨i, _, hi⟩ := hfp k b hf
    exact r.own i b hi
  · obtain ⟨i, a1, a2⟩ := hfp j b hj
    obtain ⟨i', b1, b2⟩ := hfp k b hk
    have := r.dis i i' b a2 b2
    subst this
    have hj' := (List.getElem?_eq_some_iff.1 a1)
    have hk' := (List.getElem?_eq_some_iff.1 b1)
    obtain ⟨x1, x2⟩ := hj'
    obtain ⟨y1, y2⟩ := hk'
    rcases Nat.lt_trichotomy j k with hlt | heq | hlt
    · exact absurd (x2.trans y2.symm) (List.pairwise_iff_getElem.1 hd j k x1 y1 hlt)
    · exact heq
    · exact absurd (y2.trans x2.symm) (List.pairwise_iff_getElem.1 hd k j y1 x1 hlt)
  · obtain ⟨i, x, g0, g1, g2⟩ := hg k e he
    exact entLeR_dat g2 (Ent.dat_mono (r.dat i x p g1 (hpl g0 g1 hp)) (r.datStep (Nat.le_refl _) (fun j b hf => Or.inl (by obtain ⟨i, _, hi⟩ := hfp j b hf; exact ⟨i, hi⟩)) fun _ _ _ _ => rfl) fun _ _ => rfl)

theorem pick_split {σ : List Nat} {a b : List Pl} {m : Nat} (ha : a.length = m) (h : σ.take m = List.range m) : ∃ c, pick σ (a ++ b) = a ++ c := by
  refine ⟨pick (σ.drop m) (a ++ b), ?_⟩
  have e : pick σ (a ++ b) = pick (σ.take m) (a ++ b) ++ pick (σ.drop m) (a ++ b) := by
    unfold pick
    rw [← List.map_append, List.take_append_drop]
  rw [e, h]
  congr 1
  apply List.ext_getElem
  · simp [pick, ha]
  · intro i h1 h2
    simp [pick, List.getD, h2]
    rw [List.getElem?_append_left h2, List.getElem?_eq_getElem h2]
    rfl

/-- After a round the state is S y, but for the numbers of the entries. -/
structure StLeR (σ : List Nat) (m : Nat) (st s : St) : Prop where
  m : σ.take m = List.range m
  d : σ.Nodup
  t : tLeR σ st.t s.t
  h : hLeR σ st.h σ s.h

theorem loop_ruleR {P : Program} {N : Env} (hA : N.A = .std) (hE : N.E.Ok P) (hC : CtsOk P N.C) {m : Nat} (hL : ∀ c st K, codeOk N.R c = true → N.L c st K → Runs P m (.loop c) st K) (hm : P.follows .mixedOrders = true) (M : List Nat)
    {c : Code} {st : St} {K : Ex → St → Prop} {X : Type} (S : X → St) (μ : X → Nat) (x0 : X) (hc : codeOk N.R c = true) (σ0 : List Nat) (h0 : StLeR σ0 m st (S x0))
    (round : ∀ x, exec N M c (S x) fun e st' => match e with
      | .normal => ∃ y σ, μ y < μ x ∧ StLeR σ m st' (S y)
      | e => K e st') : Runs P m (.loop c) st K := by
  refine ⟨fun w0 G ρb ρ1 a W hρ r hs hd => ?_⟩
  refine wp_loop_ghost (fun n a W => ∃ x ρ', μ x = n ∧ Rel w0 G (ρb ++ ρ') (S x).h W ∧ IsS (ρb ++ ρ') (S x).t a.tmps.toList ∧ a.defers = []) (μ x0) ?_ ?_
  · obtain ⟨c1, hc1⟩ := pick_split (b := ρ1) hρ h0.m
    exact ⟨x0, c1, rfl, by rw [← hc1]; exact r.pick h0.h h0.d, by rw [← hc1]; exact t_pick h0.t hs, hd⟩
  · rintro n a W ⟨x, ρ', rfl, r', hs', hd'⟩
    refine Code.wp_mono (fun e a W hq => ?_) ((exec_ok hA hE hC hL hm M c _ _ hc (round x)).run w0 G ρb ρ' a W hρ r' hs' hd')
    obtain ⟨ex, st', ρ2, he, r2, hs2, hd2, hk⟩ := hq
    cases ex with
    | normal =>
      cases e <;> try exact (show False from he).elim
      obtain ⟨y, σ, hy, hle⟩ := hk
      obtain ⟨c1, hc1⟩ := pick_split (b := ρ2) hρ hle.m
      exact ⟨μ y, hy, y, c1, rfl, by rw [← hc1]; exact r2.pick hle.h hle.d, by rw [← hc1]; exact t_pick hle.t hs2, hd2⟩
    | exit i =>
      cases e <;> try exact (show False from he).elim
      exact ⟨.exit i, st', ρ2, he, r2, hs2, hd2, hk⟩
    | ret =>
      cases e <;> try exact (show False from he).elim
      exact ⟨.ret, st', ρ2, he, r2, hs2, hd2, hk⟩
end Go.Proofs.Ytcgoaicifjndpaa.Vx
end

section
/- A nil slice as a row without elements; functions that read slices and hand out what they made. -/
namespace Go.Proofs.Ytcgoaicifjndpaa.Vx
open Go.RowKit
set_option linter.unusedVariables false
set_option linter.unusedSimpArgs false

/-- A row without elements is there at any time. -/
theorem Rel.addNil {w0 : World} {G : Gs} {ρ : List Pl} {h : List Ent} {W : World} (r : Rel w0 G ρ h W) (e : TypeId) (sz : Nat) (g : Nat → List CV) : Rel w0 G (ρ ++ [⟨0, .slice none 0 0, 0⟩]) (h ++ [.row e sz 0 g]) W :=
  r.bornE (en := .row e sz 0 g) (q0 := ⟨0, .slice none 0 0, 0⟩) ⟨[], ⟨fun i hi => absurd hi (by simp), rfl, fun b hb => by simp [Value.ownBlock] at hb⟩, World.ownsRow_nil W 0 e sz⟩ rfl (fun b hb => by simp [Ent.fp, Value.ownBlock] at hb)
    ⟨rfl, rfl, rfl, Nat.le_refl _, fun _ _ _ => rfl⟩ (fun b hb => by simp [Ent.fp, Value.ownBlock] at hb)

/-- The same cells in other words. -/
theorem Rel.recell {w0 : World} {G : Gs} {ρ : List Pl} {h : List Ent} {W : World} (r : Rel w0 G ρ h W) {i : Nat} {t : TypeId} {cs cs' : List CV} (hi : h[i]? = some (.cells t cs)) (hc : ∀ vs, IsL ρ cs vs → IsL ρ cs' vs) : Rel w0 G ρ (h.set i (.cells t cs')) W := by
  have hlt : i < h.length := (List.getElem?_eq_some_iff.1 hi).1
  have hget : ∀ j e, (h.set i (.cells t cs'))[j]? = some e → (j = i ∧ e = .cells t cs') ∨ (j ≠ i ∧ h[j]? = some e) := fun j e he => by
    by_cases hj : j = i
    · subst hj
      rw [List.getElem?_set_self hlt] at he
      exact Or.inl ⟨rfl, (Option.some.inj he).symm⟩
    · rw [List.getElem?_set_ne (fun e => hj e.symm)] at he
      exact Or.inr ⟨hj, he⟩
  have hfp : ∀ j b, fp ρ (h.set i (.cells t cs')) j = some b → fp ρ h j = some b := fun j b hf => by
    obtain ⟨e, q, he, hq, hx⟩ := fp_some hf
    rcases hget j e he with ⟨rfl, rfl⟩ | ⟨hj, he'⟩
    · rw [fp_mk hi hq]; exact hx
    · rw [fp_mk he' hq]; exact hx
  refine ⟨by rw [List.length_set]; exact r.len, fun j e q he hq => ?_, fun j b hf => r.own j b (hfp j b hf), fun j k b h1 h2 => r.dis j k b (hfp j b h1) (hfp k b h2), r.kept, fun j e q he hq => ?_, r.os, r.tape, r.output, r.size⟩
  · rcases hget j e he with ⟨rfl, rfl⟩ | ⟨hj, he'⟩
    · obtain ⟨vs, h1, h2⟩ := r.ok j _ q hi hq
      exact ⟨vs, hc vs h1, h2⟩
    · exact r.ok j e q he' hq
  · rcases hget j e he with ⟨rfl, rfl⟩ | ⟨hj, he'⟩
    · trivial
    · exact Ent.dat_mono (r.dat j e q he' hq) (r.datStep (Nat.le_refl _) (fun j b hf => Or.inl ⟨j, hfp j b hf⟩) fun _ _ _ _ => rfl) fun _ _ => rfl

/-- Slices without elements, in whatever words. -/
def isNilE : Ent → Bool
  | .row _ _ 0 _ => true
  | .orow _ _ 0 _ => true
  | .data _ _ _ 0 _ => true
  | .elems _ _ 0 _ => true
  | _ => false
theorem Rel.addNilE {w0 : World} {G : Gs} {ρ : List Pl} {h : List Ent} {W : World} (r : Rel w0 G ρ h W) (en : Ent) (hen : isNilE en = true) : Rel w0 G (ρ ++ [⟨0, .slice none 0 0, 0⟩]) (h ++ [en]) W := by
  unfold isNilE at hen
  split at hen
  · exact r.addNil _ _ _
  · rename_i e sz g
    exact r.bornE (en := .orow e sz 0 g) (q0 := ⟨0, .slice none 0 0, 0⟩) ⟨⟨none, 0, rfl, Nat.le_refl _, fun h => absurd h (by simp)⟩, rfl, fun b hb => by simp [Value.ownBlock] at hb⟩ rfl (fun b hb => by simp [Ent.fp, Value.ownBlock] at hb)
      (grownBy_refl W) (fun b hb => by simp [Ent.fp, Value.ownBlock] at hb) (fun _ => ⟨[], World.ownsRow_nil W 0 e sz, fun i j hi _ => absurd hi (by simp)⟩)
  · rename_i fr ty sz g
    exact r.addS (en := .data fr ty sz 0 g) (q := ⟨0, .slice none 0 0, 0⟩) rfl ⟨none, 0, rfl, Nat.le_refl _, fun h => absurd h (by simp)⟩ fun _ => ⟨none, 0, rfl, Nat.le_refl _, fun h => absurd h (by simp)⟩
  · rename_i ty sz g
    exact r.addS (en := .elems ty sz 0 g) (q := ⟨0, .slice none 0 0, 0⟩) rfl ⟨⟨none, 0, rfl, Nat.le_refl _, fun h => absurd h (by simp)⟩, fun i hi => absurd hi (by simp)⟩ fun _ h => absurd h (by simp)
  · cases hen

theorem isL_nil {ρ : List Pl} {cs : List CV} {j : Nat} {vs : List Value} (hj : cs[j]? = some (.val (.slice none 0 0))) (h : IsL ρ cs vs) {k : Nat} (hk : ρ[k]? = some ⟨0, .slice none 0 0, 0⟩) : IsL ρ (cs.set j (.row k)) vs := by
  obtain ⟨u, hu1, hu2⟩ := h.get hj
  have hu : u = .slice none 0 0 := by
    simp only [CV.den, one, if_true] at hu2
    exact (Option.some.inj hu2).symm
  have h2 := h.set j (x := .row k) (u := u) (by
    simp only [CV.den, hk, one, if_true]
    rw [hu])
  have e : vs.set j u = vs := by
    obtain ⟨hlt, hg⟩ := List.getElem?_eq_some_iff.1 hu1
    rw [← hg, List.set_getElem_self]
  rw [e] at h2
  exact h2

/-- In a cell that holds the nil slice there stands a row without elements. -/
theorem Runs.nilCell {P : Program} {m : Nat} {c : Code} {st : St} {K : Ex → St → Prop} (i j : Nat) (e : TypeId) (sz : Nat) (g : Nat → List CV) {t : TypeId} {cs : List CV} (hi : st.h[i]? = some (.cells t cs)) (hj : cs[j]? = some (.val (.slice none 0 0)))
    (h : Runs P m c ⟨st.t, st.h.set i (.cells t (cs.set j (.row st.h.length))) ++ [.row e sz 0 g]⟩ K) : Runs P m c st K := by
  refine ⟨fun w0 G ρb ρ1 a W hρ r hs hd => ?_⟩
  have hil : i < st.h.length := (List.getElem?_eq_some_iff.1 hi).1
  have r1 := r.addNil e sz g
  have hk : ((ρb ++ ρ1) ++ [(⟨0, .slice none 0 0, 0⟩ : Pl)])[st.h.length]? = some ⟨0, .slice none 0 0, 0⟩ := by
    rw [← r.len, List.getElem?_append_right (Nat.le_refl _)]
    simp
  have r2 := r1.recell (i := i) (t := t) (cs := cs) (cs' := cs.set j (.row st.h.length)) (by rw [List.getElem?_append_left hil]; exact hi) (fun vs hv => isL_nil hj hv hk)
  rw [List.set_append_left _ _ hil, List.append_assoc] at r2
  exact h.run w0 G ρb (ρ1 ++ [⟨0, .slice none 0 0, 0⟩]) a W hρ r2 (by rw [← List.append_assoc]; exact hs.app_ρ _) hd

/-- In a cell that holds the nil slice there stands a row without elements. -/
theorem Runs.nilCellE {P : Program} {m : Nat} {c : Code} {st : St} {K : Ex → St → Prop} (i j : Nat) (en : Ent) (hen : isNilE en = true) {t : TypeId} {cs : List CV} (hi : st.h[i]? = some (.cells t cs)) (hj : cs[j]? = some (.val (.slice none 0 0)))
    (h : Runs P m c ⟨st.t, st.h.set i (.cells t (cs.set j (.row st.h.length))) ++ [en]⟩ K) : Runs P m c st K := by
  refine ⟨fun w0 G ρb ρ1 a W hρ r hs hd => ?_⟩
  have hil : i < st.h.length := (List.getElem?_eq_some_iff.1 hi).1
  have r1 := r.addNilE en hen
  have hk : ((ρb ++ ρ1) ++ [(⟨0, .slice none 0 0, 0⟩ : Pl)])[st.h.length]? = some ⟨0, .slice none 0 0, 0⟩ := by
    rw [← r.len, List.getElem?_append_right (Nat.le_refl _)]
    simp
  have r2 := r1.recell (i := i) (t := t) (cs := cs) (cs' := cs.set j (.row st.h.length)) (by rw [List.getElem?_append_left hil]; exact hi) (fun vs hv => isL_nil hj hv hk)
  rw [List.set_append_left _ _ hil, List.append_assoc] at r2
  exact h.run w0 G ρb (ρ1 ++ [⟨0, .slice none 0 0, 0⟩]) a W hρ r2 (by rw [← List.append_assoc]; exact hs.app_ρ _) hd
/-- So in a slot. -/
theorem Runs.nilTmpE {P : Program} {m : Nat} {c : Code} {st : St} {K : Ex → St → Prop} (d : Nat) (en : Ent) (hen : isNilE en = true) (hd0 : st.t.getD d .und = .c (.val (.slice none 0 0)))
    (h : Runs P m c ⟨st.t.set d (.c (.row st.h.length)), st.h ++ [en]⟩ K) : Runs P m c st K := by
  refine ⟨fun w0 G ρb ρ1 a W hρ r hs hd => ?_⟩
  have r1 := r.addNilE en hen
  have hk : ((ρb ++ ρ1) ++ [(⟨0, .slice none 0 0, 0⟩ : Pl)])[st.h.length]? = some ⟨0, .slice none 0 0, 0⟩ := by
    rw [← r.len, List.getElem?_append_right (Nat.le_refl _)]
    simp
  have hs1 := hs.app_ρ [(⟨0, .slice none 0 0, 0⟩ : Pl)]
  have hget := tmps_get hs d
  rw [hd0] at hget
  have hu : a.tmps.getD d undef = .slice none 0 0 := by
    have h2 : CV.den (ρb ++ ρ1) (.val (.slice none 0 0)) = some (a.tmps.getD d undef) := hget
    simp only [CV.den, one, if_true] at h2
    exact (Option.some.inj h2).symm
  have hlt : d < a.tmps.size := tmps_lt hs hd0 (by simp)
  have hs2 := hs1.set d (y := .c (.row st.h.length)) (v := .slice none 0 0) (by
    show CV.den _ _ = _
    simp only [CV.den, hk, one, if_true])
  have e : a.tmps.toList.set d (.slice none 0 0) = a.tmps.toList := by
    rw [Array.getD_eq_getD_getElem?, Array.getElem?_eq_getElem hlt] at hu
    simp only [Option.getD_some] at hu
    rw [← hu]
    have : a.tmps[d] = a.tmps.toList[d]'(by simpa using hlt) := by simp
    rw [this, List.set_getElem_self]
  rw [e] at hs2
  rw [List.append_assoc] at r1 hs2
  exact h.run w0 G ρb (ρ1 ++ [⟨0, .slice none 0 0, 0⟩]) a W hρ r1 hs2 hd


/-! ### Results with places, under other numbers -/
def renE (σ : List Nat) : List (Option CV × List CV) → List (Option CV × List CV)
  | [] => []
  | (some x, cs) :: r => (some (renC σ x), cs) :: renE σ r
  | (none, cs) :: r => (none, renL σ cs) :: renE σ r
def renV (σ : List Nat) : SV → SV
  | .c x => .c (renC σ x)
  | .agg cs => .agg (renL σ cs)
  | .tup vs => .tup (renE σ vs)
  | .fn f cs => .fn f (renL σ cs)
  | x => x
def eltsSc (n : Nat) : List (Option CV × List CV) → Bool
  | [] => true
  | (some x, _) :: r => cvSc n x && eltsSc n r
  | (none, cs) :: r => cvsSc n cs && eltsSc n r
def svScV (n : Nat) : SV → Bool
  | .c x => cvSc n x
  | .agg cs => cvsSc n cs
  | .tup vs => eltsSc n vs
  | .fn _ cs => cvsSc n cs
  | _ => true
theorem elts_pick {ρ : List Pl} {σ : List Nat} : ∀ {xs : List (Option CV × List CV)} {us : List Value}, eltsSc σ.length xs = true → Elts ρ (renE σ xs) us → Elts (pick σ ρ) xs us
  | [], us, _, k => k
  | (some x, cs) :: xs, us, hs, k => by
    simp only [eltsSc, Bool.and_eq_true] at hs
    obtain ⟨u, us', rfl, h1, h2⟩ := k
    exact ⟨u, us', rfl, den_pick hs.1 h1, elts_pick hs.2 h2⟩
  | (none, cs) :: xs, us, hs, k => by
    simp only [eltsSc, Bool.and_eq_true] at hs
    obtain ⟨u, us', rfl, ⟨vs, g1, g2⟩, h2⟩ := k
    exact ⟨u, us', rfl, ⟨vs, isL_pick hs.1 g1, g2⟩, elts_pick hs.2 h2⟩
theorem svV_pick {ρ : List Pl} {σ : List Nat} {y : SV} {u : Value} (hs : svScV σ.length y = true) (h : (renV σ y).is ρ u) : y.is (pick σ ρ) u := by
  cases y with
  | c y => exact den_pick hs h
  | agg cs => obtain ⟨vs, g1, g2⟩ := h; exact ⟨vs, isL_pick hs g1, g2⟩
  | tup vs => obtain ⟨us, g1, g2⟩ := h; exact ⟨us, elts_pick hs g1, g2⟩
  | fn f cs => obtain ⟨vs, g1, g2⟩ := h; exact ⟨vs, isL_pick hs g1, g2⟩
  | und => exact h
  | any => trivial

/-! ### Results with places, behind other entries -/







/-- As cvSame, but that the nil slice may be told as the row k. -/
def cvSameN (k : Nat) : CV → CV → Prop
  | .val (.slice none 0 0), .row j => j = k
  | x, y => cvSame x y
def cvsSameN (k : Nat) : List CV → List CV → Prop
  | [], [] => True
  | x :: xs, y :: ys => cvSameN k x y ∧ cvsSameN k xs ys
  | _, _ => False
def eltsSameN (k : Nat) : List (Option CV × List CV) → List (Option CV × List CV) → Prop
  | [], [] => True
  | (some x, _) :: r, (some y, _) :: s => cvSameN k x y ∧ eltsSameN k r s
  | (none, xs) :: r, (none, ys) :: s => cvsSameN k xs ys ∧ eltsSameN k r s
  | _, _ => False
def svSameN (k : Nat) : SV → SV → Prop
  | .c x, .c y => cvSameN k x y
  | .agg xs, .agg ys => cvsSameN k xs ys
  | .tup xs, .tup ys => eltsSameN k xs ys
  | _, _ => False
theorem cvSameN_ok {k : Nat} {x y : CV} (h : cvSameN k x y) {ρ : List Pl} (hk : ρ[k]? = some ⟨0, .slice none 0 0, 0⟩) {u : Value} (d : x.den ρ = some u) : y.den ρ = some u := by
  unfold cvSameN at h
  split at h
  · subst h
    simp only [CV.den, hk, one, if_true] at d ⊢
    exact d
  · exact cvSame_ok h d
theorem cvsSameN_ok {k : Nat} {ρ : List Pl} (hk : ρ[k]? = some ⟨0, .slice none 0 0, 0⟩) : ∀ {xs ys : List CV} {us : List Value}, cvsSameN k xs ys → IsL ρ xs us → IsL ρ ys us
  | [], [], us, _, d => d
  | x :: xs, y :: ys, us, h, d => by
    cases us with
    | nil => simp [IsL] at d
    | cons u us =>
      simp only [IsL, List.map_cons, List.cons.injEq] at d
      exact IsL.cons (cvSameN_ok h.1 hk d.1) (cvsSameN_ok hk h.2 d.2)
  | [], _ :: _, _, h, _ => h.elim
  | _ :: _, [], _, h, _ => h.elim
theorem eltsSameN_ok {k : Nat} {ρ : List Pl} (hk : ρ[k]? = some ⟨0, .slice none 0 0, 0⟩) : ∀ {xs ys : List (Option CV × List CV)} {us : List Value}, eltsSameN k xs ys → Elts ρ xs us → Elts ρ ys us
  | [], [], us, _, d => d
  | (some x, _) :: xs, (some y, _) :: ys, us, h, d => by
    obtain ⟨u, us', rfl, h1, h2⟩ := d
    exact ⟨u, us', rfl, cvSameN_ok h.1 hk h1, eltsSameN_ok hk h.2 h2⟩
  | (none, x) :: xs, (none, y) :: ys, us, h, d => by
    obtain ⟨u, us', rfl, ⟨vs, g1, g2⟩, h2⟩ := d
    exact ⟨u, us', rfl, ⟨vs, cvsSameN_ok hk h.1 g1, g2⟩, eltsSameN_ok hk h.2 h2⟩
  | [], _ :: _, _, h, _ => by simp [eltsSameN] at h
  | _ :: _, [], _, h, _ => by simp [eltsSameN] at h
  | (some _, _) :: _, (none, _) :: _, _, h, _ => by simp [eltsSameN] at h
  | (none, _) :: _, (some _, _) :: _, _, h, _ => by simp [eltsSameN] at h
theorem svSameN_ok {k : Nat} {x y : SV} (h : svSameN k x y) {ρ : List Pl} (hk : ρ[k]? = some ⟨0, .slice none 0 0, 0⟩) {u : Value} (d : x.is ρ u) : y.is ρ u := by
  unfold svSameN at h
  split at h
  · exact cvSameN_ok h hk d
  · obtain ⟨vs, h1, h2⟩ := d; exact ⟨vs, cvsSameN_ok hk h h1, h2⟩
  · obtain ⟨us, h1, h2⟩ := d; exact ⟨us, eltsSameN_ok hk h h1, h2⟩
  · exact h.elim


end Go.Proofs.Ytcgoaicifjndpaa.Vx
end
