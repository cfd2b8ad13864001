/- Renumbering, where entries that are not spoken of any more may share a number. -/
import Derived.Test.YtcgoaicifjndpaaM12
namespace Go.Proofs.Ytcgoaicifjndpaa.Vx
open Go.RowKit
set_option linter.unusedVariables false
set_option linter.unusedSimpArgs false

def liveN : List Nat → List Ent → List Nat
  | _ :: ks, .dead :: es => liveN ks es
  | _ :: ks, .elems _ _ _ _ :: es => liveN ks es
  | _ :: ks, .glob _ _ _ _ :: es => liveN ks es
  | _ :: ks, .data _ _ _ _ _ :: es => liveN ks es
  | k :: ks, .cells _ _ :: es => k :: liveN ks es
  | k :: ks, .row _ _ _ _ :: es => k :: liveN ks es
  | k :: ks, .bytes _ _ :: es => k :: liveN ks es
  | k :: ks, .orow _ _ _ _ :: es => k :: liveN ks es
  | k :: ks, .mp _ _ :: es => k :: liveN ks es
  | k :: ks, .mq _ _ :: es => k :: liveN ks es
  | _, _ => []
def Ent.live : Ent → Bool
  | .cells .. => true
  | .row .. => true
  | .bytes .. => true
  | .orow .. => true
  | .mp .. => true
  | .mq .. => true
  | _ => false
theorem liveN_cons {k : Nat} {ks : List Nat} {e : Ent} {es : List Ent} (h : e.live = true) : liveN (k :: ks) (e :: es) = k :: liveN ks es := by
  cases e <;> first | rfl | cases h
theorem liveN_skip {k : Nat} {ks : List Nat} {e : Ent} {es : List Ent} (h : e.live = false) : liveN (k :: ks) (e :: es) = liveN ks es := by
  cases e <;> first | rfl | cases h
theorem fp_live {e : Ent} {p : Pl} {b : Nat} (h : e.fp p = some b) : e.live = true := by
  cases e <;> first | rfl | cases h
theorem liveN_mem : ∀ {ks : List Nat} {es : List Ent} {j i : Nat} {e : Ent}, ks[j]? = some i → es[j]? = some e → e.live = true → i ∈ liveN ks es
  | [], _, _, _, _, h, _, _ => by simp at h
  | k :: ks, [], _, _, _, _, h, _ => by simp at h
  | k :: ks, x :: es, 0, i, e, h1, h2, h3 => by
    simp at h1 h2
    subst h1 h2
    rw [liveN_cons h3]
    simp
  | k :: ks, x :: es, j + 1, i, e, h1, h2, h3 => by
    have ih := liveN_mem (ks := ks) (es := es) (j := j) (by simpa using h1) (by simpa using h2) h3
    cases h : x.live with
    | false => rw [liveN_skip h]; exact ih
    | true => rw [liveN_cons h]; exact List.mem_cons_of_mem _ ih
theorem liveN_inj : ∀ {ks : List Nat} {es : List Ent} {j k i : Nat} {e1 e2 : Ent}, (liveN ks es).Nodup → ks[j]? = some i → ks[k]? = some i → es[j]? = some e1 → es[k]? = some e2 → e1.live = true → e2.live = true → j = k
  | [], _, _, _, _, _, _, _, h, _, _, _, _, _ => by simp at h
  | x :: ks, [], _, _, _, _, _, _, _, _, h, _, _, _ => by simp at h
  | x :: ks, y :: es, 0, 0, i, e1, e2, _, _, _, _, _, _, _ => rfl
  | x :: ks, y :: es, 0, k + 1, i, e1, e2, hd, h1, h2, h3, h4, h5, h6 => by
    simp at h1 h3
    subst h1 h3
    rw [liveN_cons h5, List.nodup_cons] at hd
    exact absurd (liveN_mem (j := k) (by simpa using h2) (by simpa using h4) h6) hd.1
  | x :: ks, y :: es, j + 1, 0, i, e1, e2, hd, h1, h2, h3, h4, h5, h6 => by
    simp at h2 h4
    subst h2 h4
    rw [liveN_cons h6, List.nodup_cons] at hd
    exact absurd (liveN_mem (j := j) (by simpa using h1) (by simpa using h3) h5) hd.1
  | x :: ks, y :: es, j + 1, k + 1, i, e1, e2, hd, h1, h2, h3, h4, h5, h6 => by
    have hd' : (liveN ks es).Nodup := by
      cases h : y.live with
      | false => rw [liveN_skip h] at hd; exact hd
      | true => rw [liveN_cons h] at hd; exact (List.nodup_cons.1 hd).2
    exact congrArg (· + 1) (liveN_inj (es := es) hd' (by simpa using h1) (by simpa using h2) (by simpa using h3) (by simpa using h4) h5 h6)

theorem Rel.pickL {w0 : World} {G : Gs} {ρ : List Pl} {h h' : List Ent} {σ : List Nat} {W : World} (r : Rel w0 G ρ h W) (hl : hLeR σ h σ h') (hd : (liveN σ h').Nodup) : Rel w0 G (Vx.pick σ ρ) h' W := by
  obtain ⟨hn, hg⟩ := hLeR_get hl
  have hpl : ∀ {k i : Nat} {p : Pl} {x : Ent}, σ[k]? = some i → h[i]? = some x → (Vx.pick σ ρ)[k]? = some p → ρ[i]? = some p := fun {k i p x} hk hx hp => by
    have hi : i < ρ.length := by rw [r.len]; exact (List.getElem?_eq_some_iff.1 hx).1
    have := pick_get hk (List.getElem?_eq_getElem hi)
    rw [this] at hp
    rw [List.getElem?_eq_getElem hi]
    exact hp
  have hfp : ∀ k b, fp (Vx.pick σ ρ) h' k = some b → ∃ i, σ[k]? = some i ∧ fp ρ h i = some b := fun k b hf => by
    obtain ⟨e, p, he, hp, hx⟩ := fp_some hf
    obtain ⟨i, x, h0, h1, h2⟩ := hg k e he
    refine ⟨i, h0, ?_⟩
    rw [fp_mk h1 (hpl h0 h1 hp)]
    exact (entLeR_ok h2 (r.ok i x p h1 (hpl h0 h1 hp))).2 b hx
  refine ⟨by simp [Vx.pick, hn], fun k e p he hp => ?_, fun k b hf => ?_, fun j k b hj hk => ?_, r.kept, fun k e p he hp => ?_, r.os, r.tape, r.output, r.size⟩
  · obtain ⟨i, x, g0, g1, g2⟩ := hg k e he
    exact (entLeR_ok g2 (r.ok i x p g1 (hpl g0 g1 hp))).1
  · obtain ⟨i, _, hi⟩ := hfp k b hf
    exact r.own i b hi
  · obtain ⟨i, a1, a2⟩ := hfp j b hj
    obtain ⟨i', b1, b2⟩ := hfp k b hk
    have := r.dis i i' b a2 b2
    subst this
    obtain ⟨e1, p1, he1, hp1, hx1⟩ := fp_some hj
    obtain ⟨e2, p2, he2, hp2, hx2⟩ := fp_some hk
    exact liveN_inj hd a1 b1 he1 he2 (fp_live hx1) (fp_live hx2)
  · obtain ⟨i, x, g0, g1, g2⟩ := hg k e he
    exact entLeR_dat g2 (Ent.dat_mono (r.dat i x p g1 (hpl g0 g1 hp)) (r.datStep (Nat.le_refl _) (fun j b hf => Or.inl (by obtain ⟨i, _, hi⟩ := hfp j b hf; exact ⟨i, hi⟩)) fun _ _ _ _ => rfl) fun _ _ => rfl)

/-- After a round the state is S y, but for the numbers of the entries; a number may stand twice where one of the entries is not spoken of any more. -/
structure StLeL (σ : List Nat) (m : Nat) (st s : St) : Prop where
  m : σ.take m = List.range m
  d : (liveN σ s.h).Nodup
  t : tLeR σ st.t s.t
  h : hLeR σ st.h σ s.h

theorem loop_ruleL {P : Program} {N : Env} (hA : N.A = .std) (hE : N.E.Ok P) (hC : CtsOk P N.C) {m : Nat} (hL : ∀ c st K, codeOk N.R c = true → N.L c st K → Runs P m (.loop c) st K) (hm : P.follows .mixedOrders = true) (M : List Nat)
    {c : Code} {st : St} {K : Ex → St → Prop} {X : Type} (S : X → St) (μ : X → Nat) (x0 : X) (hc : codeOk N.R c = true) (σ0 : List Nat) (h0 : StLeL σ0 m st (S x0))
    (round : ∀ x, exec N M c (S x) fun e st' => match e with
      | .normal => ∃ y σ, μ y < μ x ∧ StLeL σ m st' (S y)
      | e => K e st') : Runs P m (.loop c) st K := by
  refine ⟨fun w0 G ρb ρ1 a W hρ r hs hd => ?_⟩
  refine wp_loop_ghost (fun n a W => ∃ x ρ', μ x = n ∧ Rel w0 G (ρb ++ ρ') (S x).h W ∧ IsS (ρb ++ ρ') (S x).t a.tmps.toList ∧ a.defers = []) (μ x0) ?_ ?_
  · obtain ⟨c1, hc1⟩ := pick_split (b := ρ1) hρ h0.m
    exact ⟨x0, c1, rfl, by rw [← hc1]; exact r.pickL h0.h h0.d, by rw [← hc1]; exact t_pick h0.t hs, hd⟩
  · rintro n a W ⟨x, ρ', rfl, r', hs', hd'⟩
    refine Code.wp_mono (fun e a W hq => ?_) ((exec_ok hA hE hC hL hm M c _ _ hc (round x)).run w0 G ρb ρ' a W hρ r' hs' hd')
    obtain ⟨ex, st', ρ2, he, r2, hs2, hd2, hk⟩ := hq
    cases ex with
    | normal =>
      cases e <;> try exact (show False from he).elim
      obtain ⟨y, σ, hy, hle⟩ := hk
      obtain ⟨c1, hc1⟩ := pick_split (b := ρ2) hρ hle.m
      exact ⟨μ y, hy, y, c1, rfl, by rw [← hc1]; exact r2.pickL hle.h hle.d, by rw [← hc1]; exact t_pick hle.t hs2, hd2⟩
    | exit i =>
      cases e <;> try exact (show False from he).elim
      exact ⟨.exit i, st', ρ2, he, r2, hs2, hd2, hk⟩
    | ret =>
      cases e <;> try exact (show False from he).elim
      exact ⟨.ret, st', ρ2, he, r2, hs2, hd2, hk⟩
end Go.Proofs.Ytcgoaicifjndpaa.Vx
