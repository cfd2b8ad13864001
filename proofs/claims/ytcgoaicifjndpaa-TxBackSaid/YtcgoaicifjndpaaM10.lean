/- The walker is sound: regions, code, functions. -/
import Derived.Test.YtcgoaicifjndpaaVxNest
import Derived.LoopN
section
namespace Go.Proofs.Ytcgoaicifjndpaa.Vx
open Go.RowKit
set_option linter.unusedVariables false
set_option linter.unusedSimpArgs false

theorem tmps_get {ρ : List Pl} {t : List SV} {a : Act} (hs : IsS ρ t a.tmps.toList) (d : Nat) : (t.getD d .und).is ρ (a.tmps.getD d undef) := by
  have := hs.get d
  simpa [Array.getD_eq_getD_getElem?, List.getD_eq_getElem?_getD] using this

theorem tmps_lt {ρ : List Pl} {t : List SV} {a : Act} (hs : IsS ρ t a.tmps.toList) {d : Nat} {v : SV} (h : t.getD d .und = v) (hv : v ≠ .und) : d < a.tmps.size := by
  have hl := hs.len
  rcases Nat.lt_or_ge d t.length with hd | hd
  · simpa [hl] using hd
  · rw [List.getD_eq_getElem?_getD, List.getElem?_eq_none hd] at h
    exact absurd h.symm hv

theorem guarded_ok {ρ : List Pl} {ops : Array Oper} {o : Oper} {st : St} {a : Act} {yes no : St → Prop} (hs : IsS ρ st.t a.tmps.toList) (h : guarded ops.toList o st yes no) :
    ∃ t, IsS ρ t a.tmps.toList ∧ ((Region.wanted o (yielded ops a.tmps) = true ∧ yes ⟨t, st.h⟩) ∨ (Region.wanted o (yielded ops a.tmps) = false ∧ no ⟨t, st.h⟩)) := by
  unfold guarded at h
  split at h
  · rename_i hg
    exact ⟨st.t, hs, Or.inl ⟨by simp [Region.wanted, hg], h⟩⟩
  · rename_i j want hg
    split at h
    · rename_i d hd
      have hd' : (ops[j]?).bind (·.dst) = some d := by simpa using hd
      have hget := tmps_get hs d
      have hy : ∀ b : Bool, a.tmps.getD d undef = .bool b → d < a.tmps.size → yielded ops a.tmps j = some b := fun b hb hlt => by
        unfold yielded
        rw [hd']
        simp only [Option.bind_some]
        rw [Array.getD_eq_getD_getElem?, Array.getElem?_eq_getElem hlt] at hb
        rw [Array.getElem?_eq_getElem hlt]
        simp only [Option.getD_some] at hb
        rw [hb]
      have hw : ∀ b : Bool, yielded ops a.tmps j = some b → Region.wanted o (yielded ops a.tmps) = (b == want) := fun b hb => by
        simp only [Region.wanted, hg, hb]
        cases b <;> cases want <;> rfl
      split at h
      · rename_i hv
        rw [hv] at hget
        have hb := hw true (hy true (Option.some.inj hget).symm (tmps_lt hs hv (by simp)))
        cases want with
        | true => exact ⟨st.t, hs, Or.inl ⟨hb, h⟩⟩
        | false => exact ⟨st.t, hs, Or.inr ⟨hb, h⟩⟩
      · rename_i hv
        rw [hv] at hget
        have hb := hw false (hy false (Option.some.inj hget).symm (tmps_lt hs hv (by simp)))
        cases want with
        | true => exact ⟨st.t, hs, Or.inr ⟨hb, h⟩⟩
        | false => exact ⟨st.t, hs, Or.inl ⟨hb, h⟩⟩
      · rename_i b hv
        rw [hv] at hget
        have hlt := tmps_lt hs hv (by simp)
        have hval : a.tmps.getD d undef = .bool b := (Option.some.inj hget).symm
        have hb := hw b (hy b hval hlt)
        have hset : ∀ x : SV, x.is ρ (.bool b) → IsS ρ (st.t.set d x) a.tmps.toList := fun x hx => by
          have := hs.set d hx
          have e : a.tmps.toList.set d (.bool b) = a.tmps.toList := by
            rw [Array.getD_eq_getD_getElem?, Array.getElem?_eq_getElem hlt] at hval
            simp only [Option.getD_some] at hval
            rw [← hval]
            have : a.tmps[d] = a.tmps.toList[d]'(by simpa using hlt) := by simp
            rw [this, List.set_getElem_self]
          rw [e] at this
          exact this
        cases b with
        | true =>
          have h1 := h.1 rfl
          cases want with
          | true => exact ⟨_, hset (.c .tt) rfl, Or.inl ⟨hb, h1⟩⟩
          | false => exact ⟨_, hset (.c .tt) rfl, Or.inr ⟨hb, h1⟩⟩
        | false =>
          have h1 := h.2 rfl
          cases want with
          | true => exact ⟨_, hset (.c .ff) rfl, Or.inr ⟨hb, h1⟩⟩
          | false => exact ⟨_, hset (.c .ff) rfl, Or.inl ⟨hb, h1⟩⟩
      · rename_i hv
        rw [hv] at hget
        have hval : a.tmps.getD d undef = undef := hget
        refine ⟨st.t, hs, Or.inr ⟨?_, h⟩⟩
        have : yielded ops a.tmps j = none := by
          unfold yielded
          rw [hd']
          simp only [Option.bind_some]
          rw [Array.getD_eq_getD_getElem?] at hval
          cases hx : a.tmps[d]? with
          | none => rfl
          | some v =>
            rw [hx] at hval
            simp only [Option.getD_some] at hval
            subst hval
            rfl
        simp only [Region.wanted, hg, this]
        rfl
      · exact h.elim
    · exact h.elim

section
variable {P : Program} {N : Env} {w0 : World} {G : Gs}

theorem runL_ok (hA : N.A = .std) (hE : N.E.Ok P) (hC : CtsOk P N.C) {ops : Array Oper} {Q : Exit → Act → World → Prop} {K : St → Prop} : ∀ (l : List Oper) (ρ : List Pl) (st : St) (a : Act) (W : World),
    Rel w0 G ρ st.h W → IsS ρ st.t a.tmps.toList → a.defers = [] → (∀ ρ' st' a' W', Rel w0 G (ρ ++ ρ') st'.h W' → IsS (ρ ++ ρ') st'.t a'.tmps.toList → a'.defers = [] → K st' → Q .normal a' W') →
    runL N ops.toList l st K → wpList P ops Q l a W
  | [], ρ, st, a, W, r, hs, hd, hq, h => hq [] st a W (by rw [List.append_nil]; exact r) (by rw [List.append_nil]; exact hs) hd h
  | o :: l, ρ, st, a, W, r, hs, hd, hq, h => by
    obtain ⟨t, ht, ⟨hw, hy⟩ | ⟨hw, hn⟩⟩ := guarded_ok (ops := ops) hs h
    · unfold wpList
      rw [if_pos hw]
      refine Or.inl (stepRun_ok (st := ⟨t, st.h⟩) (hS := []) hA hE hC r ht hd (fun k e he => by simp at he) (by simp) ?_ hy)
      intro ρ' st' a' W' r' hs' hd' _ _ hk
      exact runL_ok hA hE hC l (ρ ++ ρ') st' a' W' r' hs' hd' (fun ρ2 st2 a2 W2 r2 hs2 hd2 hk2 => hq (ρ' ++ ρ2) st2 a2 W2 (by rw [← List.append_assoc]; exact r2) (by rw [← List.append_assoc]; exact hs2) hd2 hk2) hk
    · unfold wpList
      rw [if_neg (by rw [hw]; simp)]
      exact runL_ok hA hE hC l ρ ⟨Vx.put t o.dst .und, st.h⟩ (a.put o.dst undef) W r (put_is ht (rfl : SV.is ρ .und undef)) (by rw [put_defers]; exact hd) hq hn

/-- What the region keeps, of a world behind it. -/
theorem Rel.toS {ρ0 ρ' : List Pl} {hS h : List Ent} {W0 W : World} (r0 : Rel w0 G ρ0 hS W0) (r : Rel w0 G (ρ0 ++ ρ') h W) (hl : Le hS h) : Rel w0 G ρ0 hS W := by
  refine r.shrink hl r0.len.symm fun k e p he hne hp hok => ?_
  have h0 := r0.ok k e p he hp
  cases e with
  | cells ty cs =>
    obtain ⟨vs, h1, h2⟩ := hok
    obtain ⟨vs0, g1, _⟩ := h0
    have := (g1.app_ρ ρ').unique h1
    subst this
    exact ⟨_, g1, h2⟩
  | row e sz n xs => exact hok
  | bytes e l => exact hok
  | elems ty sz n get => exact hok
  | glob g sz n get => exact hok
  | data fr ty sz n get => exact hok
  | orow ty sz n get => exact hok
  | dead => trivial
  | mp gs l => exact hok
  | mq t l => exact hok

theorem rgn_ok (hA : N.A = .std) (hE : N.E.Ok P) (hC : CtsOk P N.C) {ops : Array Oper} {Q : Exit → Act → World → Prop} {K : St → Prop} (hQ : ∀ c a w, ¬ Q (.panic c) a w)
    {ρ0 : List Pl} {hS : List Ent} {W0 : World} (r0 : Rel w0 G ρ0 hS W0) (hns : Region.noSelect ops = true)
    (hq : ∀ ρ' st' a' W', Rel w0 G (ρ0 ++ ρ') st'.h W' → IsS (ρ0 ++ ρ') st'.t a'.tmps.toList → a'.defers = [] → K st' → Q .normal a' W') :
    ∀ (p : List (Nat × Bool)) (fuel : Nat) (listed : Array Bool) (ρ' : List Pl) (st : St) (a : Act) (W : World), p.length ≤ fuel → planOk ops listed p = true →
    Rel w0 G (ρ0 ++ ρ') st.h W → IsS (ρ0 ++ ρ') st.t a.tmps.toList → a.defers = [] → Le hS st.h → hS.length ≤ st.h.length → rgn N ops.toList hS p st K →
    wpAnyH P .any ops Q (fun W => Rel w0 G ρ0 hS W) fuel listed a W
  | [], fuel, listed, ρ', st, a, W, hf, hp, r, hs, hd, hl, hl2, h => by
    refine wpAnyH_done (by simpa [planOk] using hp) (hq ρ' st a W r hs hd h) fuel
  | (i, tk) :: p, 0, listed, ρ', st, a, W, hf, hp, r, hs, hd, hl, hl2, h => by simp at hf
  | (i, tk) :: p, fuel + 1, listed, ρ', st, a, W, hf, hp, r, hs, hd, hl, hl2, h => by
    have hf' : p.length ≤ fuel := by simpa using hf
    simp only [planOk, Bool.and_eq_true] at hp
    obtain ⟨hp1, hp2⟩ := hp
    simp only [rgn] at h
    split at h
    · exact h.elim
    rename_i o ho
    have ho' : ops[i]? = some o := by simpa using ho
    have hrec := rgn_ok hA hE hC hQ r0 hns hq p fuel (listed.setIfInBounds i true)
    obtain ⟨t, ht, ⟨hw, hy⟩ | ⟨hw, hn⟩⟩ := guarded_ok (ops := ops) hs h
    · cases tk with
      | true =>
        simp only [Bool.and_eq_true] at hp1
        -- an operation that is taken first
        have hpl : ∀ k p, (ρ0 ++ ρ')[k]? = some p → k < ρ0.length → ρ0[k]? = some p := fun k p hk hlt => by
          rw [List.getElem?_append_left hlt] at hk; exact hk
        have hpv := pev_ok (P := P) hE ht (h := hS) (S := fun W => Rel w0 G ρ0 hS W) (fun W' hW' k e p he hk => by
            have hlt : k < ρ0.length := by rw [r0.len]; exact (List.getElem?_eq_some_iff.1 he).1
            exact Ent.ok_app (hW'.ok k e p he (hpl k p hk hlt)) ρ') (fun W' hW' k e p he hk => by
            have hlt : k < ρ0.length := by rw [r0.len]; exact (List.getElem?_eq_some_iff.1 he).1
            exact ⟨_, hW'.dat k e p he (hpl k p hk hlt)⟩) ⟨W0, r0⟩ (by rw [← r0.len]; simp) o
        have hSW : Rel w0 G ρ0 hS W := r0.toS r hl
        rw [hA] at hy
        have go : ∀ {v : SV} {u : Value}, v.is (ρ0 ++ ρ') u → (∀ W, Rel w0 G ρ0 hS W → (execOp a.eval o).run P W = .ok (.value u) W) → rgn N ops.toList hS p ⟨Vx.put t o.dst v, st.h⟩ K → wpAnyH P .any ops Q (fun W => Rel w0 G ρ0 hS W) (fuel + 1) listed a W := fun {v u} hv hr hk => by
          refine wpAnyH_take ho' hns hp1.1 hp1.2 (v := u) (fun c a w hc => (hQ _ _ _ hc).elim) (Or.inl ⟨hw, hr⟩) hSW ?_
          exact hrec ρ' ⟨Vx.put t o.dst v, st.h⟩ _ W hf' hp2 r (put_is ht hv) (by rw [put_defers]; exact hd) hl hl2 hk
        cases hpe : pev .std N.E hS (ev t) o.op with
        | ok v =>
          rw [hpe] at hpv hy
          obtain ⟨u, h1, h2⟩ := hpv
          exact go h1 h2 hy
        | okp pre v =>
          rw [hpe] at hpv hy
          obtain ⟨u, h1, h2⟩ := hpv hy.1
          exact go h1 h2 (hy.2 hy.1)
        | split b x y =>
          rw [hpe] at hpv hy
          obtain ⟨u, h1, h2⟩ := hpv
          cases b with
          | true => exact go (v := x) h1 h2 (hy.1 rfl)
          | false => exact go (v := y) h1 h2 (hy.2 rfl)
        | okps pre b x y =>
          rw [hpe] at hpv hy
          obtain ⟨u, h1, h2⟩ := hpv hy.1
          have hy := hy.2 hy.1
          cases b with
          | true => exact go (v := x) h1 h2 (hy.1 rfl)
          | false => exact go (v := y) h1 h2 (hy.2 rfl)
        | fork c x y =>
          rw [hpe] at hpv hy
          obtain ⟨b, hc, u, h1, h2⟩ := hpv
          cases b with
          | true => exact go (v := x) h1 h2 (hy.1 (hc rfl))
          | false => exact go (v := y) h1 h2 hy.2
        | no => rw [hpe] at hy; exact hy.elim
      | false =>
        have hp1' : Region.ready .any ops listed = [i] := by simpa using hp1
        refine wpAnyH_all (rs := [i]) hp1' (by simp) fun j hj => ?_
        simp only [List.mem_singleton] at hj
        subst hj
        refine wpOp_step ho' fun K' hK' => ?_
        rw [if_pos hw]
        refine stepRun_ok (st := ⟨t, st.h⟩) (hS := hS) hA hE hC r ht hd hl hl2 ?_ hy
        intro ρ2 st' a' W' r' hs' hd' hl' hl2' hk
        rw [List.append_assoc] at r' hs'
        exact hK' a' W' ⟨r0.toS r' hl', hrec (ρ' ++ ρ2) st' a' W' hf' hp2 r' hs' hd' hl' hl2' hk⟩
    · have hput := put_is ht (d := o.dst) (v := .und) (u := undef) (rfl : SV.is (ρ0 ++ ρ') .und undef)
      have hrest := hrec ρ' ⟨Vx.put t o.dst .und, st.h⟩ (a.put o.dst undef) W hf' hp2 r hput (by rw [put_defers]; exact hd) hl hl2 hn
      cases tk with
      | true =>
        simp only [Bool.and_eq_true] at hp1
        exact wpAnyH_take ho' hns hp1.1 hp1.2 (v := undef) (fun c a w hc => (hQ _ _ _ hc).elim) (Or.inr ⟨hw, rfl⟩) (r0.toS r hl) hrest
      | false =>
        have hp1' : Region.ready .any ops listed = [i] := by simpa using hp1
        refine wpAnyH_all (rs := [i]) hp1' (by simp) fun j hj => ?_
        simp only [List.mem_singleton] at hj
        subst hj
        refine wpOp_step ho' fun K' hK' => ?_
        rw [if_neg (by rw [hw]; simp)]
        exact hK' _ _ ⟨r0.toS r hl, hrest⟩

theorem rgnT_ok (hA : N.A = .std) (hE : N.E.Ok P) (hC : CtsOk P N.C) {ops : Array Oper} {Q : Exit → Act → World → Prop} {K : St → Prop} (hQ : ∀ c a w, ¬ Q (.panic c) a w)
    {ρ0 : List Pl} {hS : List Ent} {W0 : World} (r0 : Rel w0 G ρ0 hS W0) (hns : Region.noSelect ops = true)
    (hq : ∀ ρ' st' a' W', Rel w0 G (ρ0 ++ ρ') st'.h W' → IsS (ρ0 ++ ρ') st'.t a'.tmps.toList → a'.defers = [] → K st' → Q .normal a' W') :
    ∀ (p : PT) (fuel : Nat) (listed : Array Bool) (ρ' : List Pl) (st : St) (a : Act) (W : World), depthT p ≤ fuel →
    Rel w0 G (ρ0 ++ ρ') st.h W → IsS (ρ0 ++ ρ') st.t a.tmps.toList → a.defers = [] → Le hS st.h → hS.length ≤ st.h.length → rgnT N ops.toList hS p st K →
    (planOkT ops true listed p = true → wpAnyH P .any ops Q (fun W => Rel w0 G ρ0 hS W) fuel listed a W) ∧
    (planOkT ops false listed p = true → ∀ fuel', fuel = fuel' + 1 → ∀ j ∈ headsT p, wpOp P ops Q j (fun a' w' => Rel w0 G ρ0 hS w' ∧ wpAnyH P .any ops Q (fun W => Rel w0 G ρ0 hS W) fuel' (listed.setIfInBounds j true) a' w') a W) := by
  intro p
  have stepW : ∀ (i : Nat) (p : PT), (∀ (fuel : Nat) (listed : Array Bool) (ρ' : List Pl) (st : St) (a : Act) (W : World), depthT p ≤ fuel →
      Rel w0 G (ρ0 ++ ρ') st.h W → IsS (ρ0 ++ ρ') st.t a.tmps.toList → a.defers = [] → Le hS st.h → hS.length ≤ st.h.length → rgnT N ops.toList hS p st K →
      planOkT ops true listed p = true → wpAnyH P .any ops Q (fun W => Rel w0 G ρ0 hS W) fuel listed a W) →
      ∀ (fuel : Nat) (listed : Array Bool) (ρ' : List Pl) (st : St) (a : Act) (W : World), depthT p ≤ fuel →
      Rel w0 G (ρ0 ++ ρ') st.h W → IsS (ρ0 ++ ρ') st.t a.tmps.toList → a.defers = [] → Le hS st.h → hS.length ≤ st.h.length →
      (match ops.toList[i]? with
        | none => False
        | some o => guarded ops.toList o st (fun st => stepRun N hS o st (fun st' => rgnT N ops.toList hS p st' K)) (fun st => rgnT N ops.toList hS p ⟨Vx.put st.t o.dst .und, st.h⟩ K)) →
      planOkT ops true (listed.setIfInBounds i true) p = true → wpOp P ops Q i (fun a' w' => Rel w0 G ρ0 hS w' ∧ wpAnyH P .any ops Q (fun W => Rel w0 G ρ0 hS W) fuel (listed.setIfInBounds i true) a' w') a W := by
    intro i p ih fuel listed ρ' st a W hf r hs hd hl hl2 h hp
    split at h
    · exact h.elim
    rename_i o ho
    have ho' : ops[i]? = some o := by simpa using ho
    obtain ⟨t, ht, ⟨hw, hy⟩ | ⟨hw, hn⟩⟩ := guarded_ok (ops := ops) hs h
    · refine wpOp_step ho' fun K' hK' => ?_
      rw [if_pos hw]
      refine stepRun_ok (st := ⟨t, st.h⟩) (hS := hS) hA hE hC r ht hd hl hl2 ?_ hy
      intro ρ2 st' a' W' r' hs' hd' hl' hl2' hk
      rw [List.append_assoc] at r' hs'
      exact hK' a' W' ⟨r0.toS r' hl', ih fuel _ (ρ' ++ ρ2) st' a' W' hf r' hs' hd' hl' hl2' hk hp⟩
    · have hput := put_is ht (d := o.dst) (v := .und) (u := undef) (rfl : SV.is (ρ0 ++ ρ') .und undef)
      refine wpOp_step ho' fun K' hK' => ?_
      rw [if_neg (by rw [hw]; simp)]
      exact hK' _ _ ⟨r0.toS r hl, ih fuel _ ρ' ⟨Vx.put t o.dst .und, st.h⟩ _ W hf r hput (by rw [put_defers]; exact hd) hl hl2 hn hp⟩
  induction p with
  | nil =>
    intro fuel listed ρ' st a W hf r hs hd hl hl2 h
    refine ⟨fun hp => wpAnyH_done (by simpa [planOkT] using hp) (hq ρ' st a W r hs hd h) fuel, fun hp => by simp [planOkT] at hp⟩
  | take i p ih =>
    intro fuel listed ρ' st a W hf r hs hd hl hl2 h
    refine ⟨fun hp => ?_, fun hp => by simp [planOkT] at hp⟩
    match fuel, hf with
    | 0, hf => simp [depthT] at hf
    | fuel + 1, hf =>
    have hf' : depthT p ≤ fuel := by simpa [depthT] using hf
    simp only [planOkT, Bool.and_eq_true, Bool.true_and] at hp
    obtain ⟨⟨hp1, hp1'⟩, hp2⟩ := hp
    simp only [rgnT] at h
    split at h
    · exact h.elim
    rename_i o ho
    have ho' : ops[i]? = some o := by simpa using ho
    have hrec := fun (ρ' : List Pl) (st : St) (a : Act) (W : World) r hs hd hl hl2 h => (ih fuel (listed.setIfInBounds i true) ρ' st a W hf' r hs hd hl hl2 h).1 hp2
    obtain ⟨t, ht, ⟨hw, hy⟩ | ⟨hw, hn⟩⟩ := guarded_ok (ops := ops) hs h
    · have hpl : ∀ k p, (ρ0 ++ ρ')[k]? = some p → k < ρ0.length → ρ0[k]? = some p := fun k p hk hlt => by
        rw [List.getElem?_append_left hlt] at hk; exact hk
      have hpv := pev_ok (P := P) hE ht (h := hS) (S := fun W => Rel w0 G ρ0 hS W) (fun W' hW' k e p he hk => by
          have hlt : k < ρ0.length := by rw [r0.len]; exact (List.getElem?_eq_some_iff.1 he).1
          exact Ent.ok_app (hW'.ok k e p he (hpl k p hk hlt)) ρ') (fun W' hW' k e p he hk => by
          have hlt : k < ρ0.length := by rw [r0.len]; exact (List.getElem?_eq_some_iff.1 he).1
          exact ⟨_, hW'.dat k e p he (hpl k p hk hlt)⟩) ⟨W0, r0⟩ (by rw [← r0.len]; simp) o
      have hSW : Rel w0 G ρ0 hS W := r0.toS r hl
      rw [hA] at hy
      have go : ∀ {v : SV} {u : Value}, v.is (ρ0 ++ ρ') u → (∀ W, Rel w0 G ρ0 hS W → (execOp a.eval o).run P W = .ok (.value u) W) → rgnT N ops.toList hS p ⟨Vx.put t o.dst v, st.h⟩ K → wpAnyH P .any ops Q (fun W => Rel w0 G ρ0 hS W) (fuel + 1) listed a W := fun {v u} hv hr hk => by
        refine wpAnyH_take ho' hns hp1 hp1' (v := u) (fun c a w hc => (hQ _ _ _ hc).elim) (Or.inl ⟨hw, hr⟩) hSW ?_
        exact hrec ρ' ⟨Vx.put t o.dst v, st.h⟩ _ W r (put_is ht hv) (by rw [put_defers]; exact hd) hl hl2 hk
      cases hpe : pev .std N.E hS (ev t) o.op with
      | ok v =>
        rw [hpe] at hpv hy
        obtain ⟨u, h1, h2⟩ := hpv
        exact go h1 h2 hy
      | okp pre v =>
        rw [hpe] at hpv hy
        obtain ⟨u, h1, h2⟩ := hpv hy.1
        exact go h1 h2 (hy.2 hy.1)
      | split b x y =>
        rw [hpe] at hpv hy
        obtain ⟨u, h1, h2⟩ := hpv
        cases b with
        | true => exact go (v := x) h1 h2 (hy.1 rfl)
        | false => exact go (v := y) h1 h2 (hy.2 rfl)
      | okps pre b x y =>
        rw [hpe] at hpv hy
        obtain ⟨u, h1, h2⟩ := hpv hy.1
        have hy := hy.2 hy.1
        cases b with
        | true => exact go (v := x) h1 h2 (hy.1 rfl)
        | false => exact go (v := y) h1 h2 (hy.2 rfl)
      | fork c x y =>
        rw [hpe] at hpv hy
        obtain ⟨b, hc, u, h1, h2⟩ := hpv
        cases b with
        | true => exact go (v := x) h1 h2 (hy.1 (hc rfl))
        | false => exact go (v := y) h1 h2 hy.2
      | no => rw [hpe] at hy; exact hy.elim
    · have hput := put_is ht (d := o.dst) (v := .und) (u := undef) (rfl : SV.is (ρ0 ++ ρ') .und undef)
      exact wpAnyH_take ho' hns hp1 hp1' (v := undef) (fun c a w hc => (hQ _ _ _ hc).elim) (Or.inr ⟨hw, rfl⟩) (r0.toS r hl) (hrec ρ' ⟨Vx.put t o.dst .und, st.h⟩ (a.put o.dst undef) W r hput (by rw [put_defers]; exact hd) hl hl2 hn)
  | step i p ih =>
    intro fuel listed ρ' st a W hf r hs hd hl hl2 h
    simp only [rgnT] at h
    have key : ∀ fuel', depthT p ≤ fuel' → planOkT ops true (listed.setIfInBounds i true) p = true → wpOp P ops Q i (fun a' w' => Rel w0 G ρ0 hS w' ∧ wpAnyH P .any ops Q (fun W => Rel w0 G ρ0 hS W) fuel' (listed.setIfInBounds i true) a' w') a W :=
      fun fuel' hf' hp => stepW i p (fun f l ρ' st a W hf r hs hd hl hl2 h hp => (ih f l ρ' st a W hf r hs hd hl hl2 h).1 hp) fuel' listed ρ' st a W hf' r hs hd hl hl2 h hp
    refine ⟨fun hp => ?_, fun hp fuel' he j hj => ?_⟩
    · match fuel, hf with
      | 0, hf => simp [depthT] at hf
      | fuel + 1, hf =>
      have hf' : depthT p ≤ fuel := by simpa [depthT] using hf
      simp only [planOkT, Bool.and_eq_true, Bool.not_true, Bool.false_or] at hp
      have hr : Region.ready .any ops listed = [i] := by simpa using hp.1
      refine wpAnyH_all (rs := [i]) hr (by simp) fun j hj => ?_
      simp only [List.mem_singleton] at hj
      subst hj
      exact key fuel hf' hp.2
    · simp only [headsT, List.mem_singleton] at hj
      subst hj
      subst he
      simp only [planOkT, Bool.and_eq_true, Bool.not_false, Bool.true_or, true_and] at hp
      exact key fuel' (by simpa [depthT] using hf) hp
  | alt i p q ihp ihq =>
    intro fuel listed ρ' st a W hf r hs hd hl hl2 h
    simp only [rgnT] at h
    have key : ∀ fuel', depthT p ≤ fuel' → planOkT ops true (listed.setIfInBounds i true) p = true → wpOp P ops Q i (fun a' w' => Rel w0 G ρ0 hS w' ∧ wpAnyH P .any ops Q (fun W => Rel w0 G ρ0 hS W) fuel' (listed.setIfInBounds i true) a' w') a W :=
      fun fuel' hf' hp => stepW i p (fun f l ρ' st a W hf r hs hd hl hl2 h hp => (ihp f l ρ' st a W hf r hs hd hl hl2 h).1 hp) fuel' listed ρ' st a W hf' r hs hd hl hl2 h.l hp
    have hfq : depthT q ≤ fuel := Nat.le_trans (Nat.le_max_right _ _) hf
    have hfp : depthT p + 1 ≤ fuel := Nat.le_trans (Nat.le_max_left _ _) hf
    refine ⟨fun hp => ?_, fun hp fuel' he j hj => ?_⟩
    · match fuel, hfp, hfq with
      | fuel + 1, hfp, hfq =>
      simp only [planOkT, Bool.and_eq_true, Bool.not_true, Bool.false_or] at hp
      have hr : Region.ready .any ops listed = i :: headsT q := by simpa using hp.1.1
      refine wpAnyH_all (rs := i :: headsT q) hr (by simp) fun j hj => ?_
      rcases List.mem_cons.1 hj with rfl | hj
      · exact key fuel (by omega) hp.1.2
      · exact (ihq (fuel + 1) listed ρ' st a W hfq r hs hd hl hl2 h.r).2 hp.2 fuel rfl j hj
    · simp only [planOkT, Bool.and_eq_true, Bool.not_false, Bool.true_or, true_and] at hp
      subst he
      rcases List.mem_cons.1 hj with rfl | hj
      · exact key fuel' (by omega) hp.1
      · exact (ihq (fuel' + 1) listed ρ' st a W hfq r hs hd hl hl2 h.r).2 hp.2 fuel' rfl j hj

def ExIs : Ex → Exit → Prop
  | .normal, .normal => True
  | .exit i, .exit j => i = j
  | .ret, .ret => True
  | _, _ => False

def Sat (w0 : World) (G : Gs) (ρ : List Pl) (K : Ex → St → Prop) (e : Exit) (a : Act) (W : World) : Prop :=
  ∃ ex st ρ', ExIs ex e ∧ Rel w0 G (ρ ++ ρ') st.h W ∧ IsS (ρ ++ ρ') st.t a.tmps.toList ∧ a.defers = [] ∧ K ex st

structure Runs (P : Program) (m : Nat) (c : Code) (st : St) (K : Ex → St → Prop) : Prop where
  run : ∀ (w0 : World) (G : Gs) (ρb ρ1 : List Pl) (a : Act) (W : World), ρb.length = m → Rel w0 G (ρb ++ ρ1) st.h W → IsS (ρb ++ ρ1) st.t a.tmps.toList → a.defers = [] → c.wp P (Sat w0 G ρb K) a W

theorem Sat.more {ρ ρ' : List Pl} {K : Ex → St → Prop} {e : Exit} {a : Act} {W : World} (h : Sat w0 G (ρ ++ ρ') K e a W) : Sat w0 G ρ K e a W := by
  obtain ⟨ex, st, ρ2, h1, h2, h3, h4, h5⟩ := h
  exact ⟨ex, st, ρ' ++ ρ2, h1, by rw [← List.append_assoc]; exact h2, by rw [← List.append_assoc]; exact h3, h4, h5⟩


theorem mask_le : ∀ (M : List Nat) (k : Nat) (h : List Ent), (mask M k h).length = h.length ∧ Le (mask M k h) h
  | M, k, [] => ⟨rfl, Le.refl _⟩
  | M, k, e :: h => by
    have ih := mask_le M (k + 1) h
    refine ⟨by simp [mask, ih.1], fun j x hx => ?_⟩
    cases j with
    | zero =>
      simp only [mask, List.getElem?_cons_zero, Option.some.injEq] at hx
      by_cases hm : M.contains k = true
      · rw [if_pos hm] at hx; exact Or.inl hx.symm
      · rw [if_neg hm] at hx; right; rw [List.getElem?_cons_zero, hx]
    | succ j =>
      simp only [mask, List.getElem?_cons_succ] at hx ⊢
      exact ih.2 j x hx

/-! ### A drawn region in two parts -/
def contQ (Q : Exit → Act → World → Prop) (C : Act → World → Prop) : Exit → Act → World → Prop
  | .normal, a, w => C a w
  | .exit i, a, w => Q (.exit i) a w
  | .goto l, a, w => Q (.goto l) a w
  | .ret, a, w => Q .ret a w
  | .panic c, a, w => Q (.panic c) a w
  | .outgrown, a, w => Q .outgrown a w
theorem wp_contQ {P : Program} {o : Oper} {a : Act} {w : World} {next : Act → World → Prop} {Q : Exit → Act → World → Prop} {C : Act → World → Prop} (h : o.wp P a w next (contQ Q C)) : o.wp P a w next Q := h
theorem wpAny_more {P : Program} {md : Region.Mode} {ops : Array Oper} {Q : Exit → Act → World → Prop} : ∀ (k : Nat) (l : Array Bool) (a : Act) (w : World), wpAny P md ops Q k l a w → wpAny P md ops Q (k + 1) l a w
  | 0, l, a, w, h => ⟨fun _ => h.2, fun i hi => by rw [h.1] at hi; cases hi⟩
  | k + 1, l, a, w, h => ⟨h.1, fun i hi => wpOp_mono (fun a' w' h' => wpAny_more k _ a' w' h') (h.2 i hi)⟩
theorem wpAny_add {P : Program} {md : Region.Mode} {ops : Array Oper} {Q : Exit → Act → World → Prop} {k : Nat} {l : Array Bool} {a : Act} {w : World} (h : wpAny P md ops Q k l a w) : ∀ j : Nat, wpAny P md ops Q (j + k) l a w
  | 0 => by rw [Nat.zero_add]; exact h
  | j + 1 => by
    rw [Nat.add_right_comm]
    exact wpAny_more _ _ _ _ (wpAny_add h j)
theorem wpAnyH_true {P : Program} {md : Region.Mode} {ops : Array Oper} {Q : Exit → Act → World → Prop} : ∀ (k : Nat) (l : Array Bool) (a : Act) (w : World), wpAny P md ops Q k l a w → wpAnyH P md ops Q (fun _ => True) k l a w
  | 0, l, a, w, h => h
  | k + 1, l, a, w, h => ⟨h.1, fun i hi => wpOp_mono (fun a' w' h' => ⟨trivial, wpAnyH_true k _ a' w' h'⟩) (h.2 i hi)⟩
theorem mem_ready {ops : Array Oper} {l : Array Bool} {i : Nat} : i ∈ Region.ready .any ops l ↔ ∃ o, ops[i]? = some o ∧ l.getD i true = false ∧ ∀ e ∈ o.after.toList, Region.binds .any e = true → l.getD e.on false = true := by
  unfold Region.ready
  simp only [List.mem_filter, List.mem_range, Bool.and_eq_true, Bool.not_eq_true']
  constructor
  · rintro ⟨h1, h2, h3⟩
    rw [Array.getElem?_eq_getElem h1] at h3 ⊢
    refine ⟨_, rfl, h2, fun e he hb => ?_⟩
    simp only [Option.map_some, Option.getD_some] at h3
    have := Array.all_eq_true'.1 h3 e (by simpa using he)
    simpa [hb] using this
  · rintro ⟨o, h1, h2, h3⟩
    refine ⟨(Array.getElem?_eq_some_iff.1 h1).1, h2, ?_⟩
    rw [h1]
    simp only [Option.map_some, Option.getD_some]
    refine Array.all_eq_true'.2 fun e he => ?_
    cases hb : Region.binds .any e with
    | false => simp
    | true => simpa using h3 e (by simpa using he) hb
theorem headOps_get {ops : Array Oper} {n i : Nat} (h : i < n) : (headOps ops n)[i]? = ops[i]? := by
  unfold headOps
  simp [List.getElem?_take, h]
theorem headOps_none {ops : Array Oper} {n i : Nat} (h : n ≤ i) : (headOps ops n)[i]? = none := by
  unfold headOps
  simp [List.getElem?_take]
  omega
/-- Of what is listed all that it waits for is listed. -/
def ClosedL (ops : Array Oper) (l : Array Bool) : Prop := ∀ (i : Nat) (o : Oper), ops[i]? = some o → l.getD i false = true → ∀ e ∈ o.after.toList, Region.binds .any e = true → l.getD e.on false = true
theorem befO_ok {ops : Array Oper} {l : Array Bool} (hc : ClosedL ops l) : ∀ (f i j : Nat) (o : Oper), ops[i]? = some o → (∀ e ∈ o.after.toList, Region.binds .any e = true → l.getD e.on false = true) → befO ops f i j = true → l.getD j false = true
  | 0, _, _, _, _, _, h => by cases h
  | f + 1, i, j, o, ho, ha, h => by
    simp only [befO, ho, Bool.or_eq_true, List.any_eq_true, Bool.and_eq_true, Nat.beq_eq] at h
    rcases h with ⟨e, he, hb, rfl⟩ | ⟨e, he, hb, hf⟩
    · exact ha e he hb
    · have h1 := ha e he hb
      cases hq : ops[e.on]? with
      | none =>
        cases f with
        | zero => cases hf
        | succ f => simp [befO, hq] at hf
      | some o' => exact befO_ok hc f e.on j o' hq (fun e' he' hb' => hc e.on o' hq h1 e' he' hb') hf
theorem getD_set {l : Array Bool} {i j : Nat} (h : l.getD j false = true) : (l.setIfInBounds i true).getD j false = true := by
  rw [Array.getD_eq_getD_getElem?] at h ⊢
  by_cases hij : i = j
  · subst hij
    by_cases hl : i < l.size
    · simp [Array.getElem?_setIfInBounds, hl]
    · rw [Array.getElem?_eq_none (by simpa using hl)] at h
      cases h
  · rw [Array.getElem?_setIfInBounds_ne hij]; exact h
theorem wpAny_cut {P : Program} {ops : Array Oper} {n kB : Nat} (hc : cutOk ops n = true) {Q : Exit → Act → World → Prop} :
    ∀ (k : Nat) (l : Array Bool) (a : Act) (w : World), l.size = ops.size → (∀ i, n ≤ i → i < ops.size → l.getD i true = false) → ClosedL ops l →
      wpAny P .any (headOps ops n) (contQ Q fun a w => wpAny P .any ops Q kB (headL ops.size n) a w) k l a w → wpAny P .any ops Q (k + kB) l a w := by
  simp only [cutOk, Bool.and_eq_true, Nat.ble_eq, List.all_eq_true, List.mem_range] at hc
  obtain ⟨⟨hn, hacy⟩, hblk⟩ := hc
  have hlist : ∀ (l : Array Bool), l.size = ops.size → (∀ i, n ≤ i → i < ops.size → l.getD i true = false) → Region.ready .any (headOps ops n) l = [] → l = headL ops.size n := fun l hsz hB hr => by
    have hall : ∀ i, i < n → l.getD i true = true := by
      intro i
      induction i using Nat.strongRecOn with
      | ind i ih =>
        intro hi
        cases hb : l.getD i true with
        | true => rfl
        | false =>
          exfalso
          have hio : i < ops.size := by omega
          have : i ∈ Region.ready .any (headOps ops n) l := by
            refine mem_ready.2 ⟨ops[i], by rw [headOps_get hi, Array.getElem?_eq_getElem hio], hb, fun e he _ => ?_⟩
            have h1 := hacy i hi
            rw [Array.getElem?_eq_getElem hio] at h1
            simp only [Bool.and_eq_true, List.all_eq_true] at h1
            have h2 : e.on < i := by simpa [Nat.blt_eq] using h1.1 e he
            have h3 := ih e.on h2 (by omega)
            have h4 : e.on < l.size := by omega
            simpa [Array.getD, h4] using h3
          rw [hr] at this
          cases this
    apply Array.ext
    · simp [headL, hsz]
    · intro i h1 h2
      have h3 : l[i] = l.getD i true := by simp [Array.getD, h1]
      rw [h3]
      simp only [headL, List.getElem_toArray, List.getElem_map, List.getElem_range]
      by_cases hi : i < n
      · rw [hall i hi, show Nat.blt i n = true by rw [Nat.blt_eq]; exact hi]
      · rw [hB i (by omega) (by omega), show Nat.blt i n = false by rw [Bool.eq_false_iff, ne_eq, Nat.blt_eq]; exact hi]
  have hin : ∀ (l : Array Bool) (i : Nat), ClosedL ops l → (∃ j, j < n ∧ l.getD j false = false) → i ∈ Region.ready .any ops l → i < n ∧ i ∈ Region.ready .any (headOps ops n) l := fun l i hcl ⟨j, hj, hlj⟩ hi => by
    obtain ⟨o, h1, h2, h3⟩ := mem_ready.1 hi
    have hio := (Array.getElem?_eq_some_iff.1 h1).1
    have hlt : i < n := by
      rcases Nat.lt_or_ge i n with h | h
      · exact h
      · exfalso
        have hb := hblk i hio
        rw [show Nat.blt i n = false by rw [Bool.eq_false_iff, ne_eq, Nat.blt_eq]; omega] at hb
        simp only [Bool.false_or, List.all_eq_true, List.mem_range] at hb
        have := befO_ok hcl 6 i j o h1 h3 (hb j hj)
        rw [hlj] at this
        cases this
    exact ⟨hlt, mem_ready.2 ⟨o, by rw [headOps_get hlt]; exact h1, h2, h3⟩⟩
  intro k
  induction k with
  | zero =>
    intro l a w hsz hB hcl h
    rw [Nat.zero_add]
    rw [hlist l hsz hB h.1]
    exact h.2
  | succ k ih =>
    intro l a w hsz hB hcl h
    by_cases hr : Region.ready .any (headOps ops n) l = []
    · have h1 : wpAny P .any ops Q kB (headL ops.size n) a w := h.1 hr
      rw [hlist l hsz hB hr]
      exact wpAny_add h1 (k + 1)
    · obtain ⟨j, hj⟩ := List.exists_mem_of_ne_nil _ hr
      obtain ⟨oj, hj1, hj2, hj3⟩ := mem_ready.1 hj
      have hjn : j < n := by
        rcases Nat.lt_or_ge j n with h | h
        · exact h
        · rw [headOps_none h] at hj1; cases hj1
      have hlj : l.getD j false = false := by
        have : j < l.size := by omega
        simpa [Array.getD, this] using hj2
      rw [Nat.add_right_comm]
      refine ⟨fun h0 => ?_, fun i hi => ?_⟩
      · have : j ∈ Region.ready .any ops l := mem_ready.2 ⟨oj, by rw [← headOps_get hjn]; exact hj1, hj2, hj3⟩
        rw [h0] at this
        cases this
      · obtain ⟨hlt, hi'⟩ := hin l i hcl ⟨j, hjn, hlj⟩ hi
        have hcl2 : ClosedL ops (l.setIfInBounds i true) := fun i' o' ho' hl' e he hb => by
          by_cases hii : i' = i
          · subst hii
            obtain ⟨o2, h21, _, h23⟩ := mem_ready.1 hi
            rw [h21] at ho'
            cases ho'
            exact getD_set (h23 e he hb)
          · refine getD_set (hcl i' o' ho' ?_ e he hb)
            rw [Array.getD_eq_getD_getElem?] at hl' ⊢
            rwa [Array.getElem?_setIfInBounds_ne (fun e => hii e.symm)] at hl'
        have hio : i < ops.size := by omega
        have h2 := h.2 i hi'
        have hget := headOps_get (ops := ops) hlt
        unfold wpOp at h2 ⊢
        rw [hget, Array.getElem?_eq_getElem hio] at h2
        rw [Array.getElem?_eq_getElem hio]
        simp only at h2 ⊢
        have hwant : Region.wanted ops[i] (yielded (headOps ops n) a.tmps) = Region.wanted ops[i] (yielded ops a.tmps) := by
          unfold Region.wanted
          have h3 := hacy i hlt
          rw [Array.getElem?_eq_getElem hio] at h3
          simp only [Bool.and_eq_true] at h3
          have h4 := h3.2
          split
          · rfl
          · rename_i q want hq
            rw [hq] at h4
            have h5 : q < n := by simpa [Nat.blt_eq] using h4
            unfold yielded
            rw [headOps_get h5]
        rw [hwant] at h2
        have hset : ∀ q, n ≤ q → q < ops.size → (l.setIfInBounds i true).getD q true = false := fun q h1 h2 => by
          have := hB q h1 h2
          rw [Array.getD_eq_getD_getElem?] at this ⊢
          rw [Array.getElem?_setIfInBounds_ne (by omega)]
          exact this
        split
        · rename_i hw
          rw [if_pos hw] at h2
          rcases h2 with h2 | h2
          · exact Or.inl (Oper.wp_mono (fun a' w' h' => ih _ a' w' (by simp [hsz]) hset hcl2 h') (wp_contQ h2))
          · exact Or.inr h2
        · rename_i hw
          rw [if_neg hw] at h2
          exact ih _ _ _ (by simp [hsz]) hset hcl2 h2

theorem deads_le : ∀ h : List Ent, (deads h).length = h.length ∧ Le (deads h) h
  | [] => ⟨rfl, Le.refl _⟩
  | e :: h => by
    obtain ⟨h1, h2⟩ := deads_le h
    refine ⟨by simp [deads, h1], fun k x hx => ?_⟩
    cases k with
    | zero => simp [deads] at hx; exact Or.inl hx.symm
    | succ k => simpa using h2 k x (by simpa [deads] using hx)

theorem exec_ok (hA : N.A = .std) (hE : N.E.Ok P) (hC : CtsOk P N.C) {m : Nat} (hL : ∀ c st K, codeOk N.R c = true → N.L c st K → Runs P m (.loop c) st K) (hm : P.follows .mixedOrders = true) (M : List Nat) :
    ∀ (c : Code) (st : St) (K : Ex → St → Prop), codeOk N.R c = true → exec N M c st K → Runs P m c st K := by
  intro c
  induction c with
  | skip => intro st K _ h; exact ⟨fun w0 G ρb ρ1 a W hlen r hs hd => wp_skip ⟨.normal, st, ρ1, trivial, r, hs, hd, h⟩⟩
  | region id ops draw =>
    intro st K hc h
    cases draw with
    | false =>
      exact ⟨fun w0 G ρb ρ1 a W hlen r hs hd => Code.wp_mono (fun e a W hq => Sat.more hq) (wp_region_list (runL_ok hA hE hC ops.toList (ρb ++ ρ1) st a W r hs hd (fun ρ' st' a' W' r' hs' hd' hk => (⟨.normal, st', ρ', trivial, r', hs', hd', hk⟩ : Sat w0 G (ρb ++ ρ1) K .normal a' W')) h))⟩
    | true =>
      simp only [exec] at h
      simp only [codeOk] at hc
      split at h
      · rename_i p hp
        rw [hp] at hc
        refine ⟨fun w0 G ρb ρ1 a W hlen r hs hd => Code.wp_mono (fun e a W hq => Sat.more (ρ' := ρ1) hq) ?_⟩
        have rd : Rel w0 G (ρb ++ ρ1) st.h W.drew := r.drewN _
        obtain ⟨hm1, hm2⟩ := mask_le ((marks p).1 ++ M) 0 st.h
        have r0 : Rel w0 G (ρb ++ ρ1) (mask ((marks p).1 ++ M) 0 st.h) W.drew := rd.forget hm2 hm1
        have hpan : ∀ c a w, ¬ Sat w0 G (ρb ++ ρ1) K (.panic c) a w := fun c a w hq => by
          obtain ⟨ex, _, _, he, _⟩ := hq
          cases ex <;> exact he
        dsimp only at hc h
        split at h
        · rename_i t htp
          rw [htp] at hc
          simp only [Bool.and_eq_true, Nat.ble_eq] at hc
          obtain ⟨hmt1, hmt2⟩ := mask_le M 0 st.h
          have r0t : Rel w0 G (ρb ++ ρ1) (mask M 0 st.h) W.drew := rd.forget hmt2 hmt1
          refine wp_region_held (S := fun W => Rel w0 G (ρb ++ ρ1) (mask M 0 st.h) W) hm ?_
          exact (rgnT_ok hA hE hC (K := K .normal) hpan r0t hc.1.1 (fun ρ' st' a' W' r' hs' hd' hk => ⟨.normal, st', ρ', trivial, r', hs', hd', hk⟩) t ops.size _ [] st a _ hc.1.2
            (by rw [List.append_nil]; exact rd) (by rw [List.append_nil]; exact hs) hd hmt2 (by rw [hmt1]; exact Nat.le_refl _) h).1 hc.2
        rename_i htp
        rw [htp] at hc
        dsimp only at hc
        split at h
        · rename_i hpp
          rw [hpp] at hc
          simp only [Bool.and_eq_true, Nat.ble_eq] at hc
          refine wp_region_held (S := fun W => Rel w0 G (ρb ++ ρ1) (mask ((marks p).1 ++ M) 0 st.h) W) hm ?_
          exact rgn_ok hA hE hC (K := K .normal) hpan r0 hc.1.1 (fun ρ' st' a' W' r' hs' hd' hk => ⟨.normal, st', ρ', trivial, r', hs', hd', hk⟩) (marks p).2 ops.size _ [] st a _ hc.1.2 hc.2
            (by rw [List.append_nil]; exact rd) (by rw [List.append_nil]; exact hs) hd hm2 (by rw [hm1]; exact Nat.le_refl _) h
        · rename_i n p1 p2 hpp
          rw [hpp] at hc
          simp only [Bool.and_eq_true, Nat.ble_eq] at hc
          obtain ⟨⟨⟨⟨⟨⟨c1, c2⟩, c3⟩, c4⟩, c5⟩, c6⟩, c7⟩ := hc
          have hn : n ≤ ops.size := by
            simp only [cutOk, Bool.and_eq_true, Nat.ble_eq] at c3
            exact c3.1.1
          refine wp_region_held (S := fun _ => True) hm (wpAnyH_true _ _ _ _ ?_)
          have hsum : ops.size = n + (ops.size - n) := by omega
          rw [hsum]
          rw [← hsum]
          have key : wpAny P .any ops (Sat w0 G (ρb ++ ρ1) K) (n + (ops.size - n)) (Array.replicate ops.size false) a W.drew := by
            refine wpAny_cut c3 n _ _ _ (by simp) (fun i _ hi => by simp [Array.getD, hi]) (fun i o _ hl => by
              exfalso
              rw [Array.getD_eq_getD_getElem?, Array.getElem?_replicate] at hl
              split at hl <;> cases hl) ?_
            refine wpAny_of_held n _ _ _ (rgn_ok (Q := contQ (Sat w0 G (ρb ++ ρ1) K) fun a w => wpAny P .any ops (Sat w0 G (ρb ++ ρ1) K) (ops.size - n) (headL ops.size n) a w) hA hE hC (K := fun st' => rgn N ops.toList (deads st'.h) p2 st' (K .normal)) (fun c a w hq => hpan c a w hq) r0 c2 (fun ρ' st' a' W' r' hs' hd' hk => ?_) p1 n _ [] st a _ c4 c6
              (by rw [List.append_nil]; exact rd) (by rw [List.append_nil]; exact hs) hd hm2 (by rw [hm1]; exact Nat.le_refl _) h)
            obtain ⟨d1, d2⟩ := deads_le st'.h
            refine wpAny_of_held _ _ _ _ (rgn_ok (K := K .normal) hA hE hC hpan (r'.forget d2 d1) c1 (fun ρ2 st2 a2 W2 r2 hs2 hd2 hk2 => ⟨.normal, st2, ρ' ++ ρ2, trivial, by rw [← List.append_assoc]; exact r2, by rw [← List.append_assoc]; exact hs2, hd2, hk2⟩) p2 _ _ [] st' a' W' c5 c7
              (by rw [List.append_nil]; exact r') (by rw [List.append_nil]; exact hs') hd' d2 (by rw [d1]; exact Nat.le_refl _) hk)
          rw [← hsum] at key
          exact key
      · exact h.elim
  | seq x y ihx ihy =>
    intro st K hc h
    simp only [codeOk, Bool.and_eq_true] at hc
    have h1 := ihx st _ hc.1 h
    refine ⟨fun w0 G ρb ρ1 a W hlen r hs hd => wp_seq (Code.wp_mono (fun e a W hq => ?_) (h1.run w0 G ρb ρ1 a W hlen r hs hd))⟩
    obtain ⟨ex, st', ρ', he, r', hs', hd', hk⟩ := hq
    cases ex with
    | normal =>
      cases e <;> try exact he.elim
      exact (ihy st' K hc.2 hk).run w0 G ρb ρ' a W hlen r' hs' hd'
    | exit i =>
      cases e <;> try exact he.elim
      exact ⟨.exit i, st', ρ', he, r', hs', hd', hk⟩
    | ret =>
      cases e <;> try exact he.elim
      exact ⟨.ret, st', ρ', he, r', hs', hd', hk⟩
  | cond c x y ihx ihy =>
    intro st K hc h
    simp only [codeOk, Bool.and_eq_true] at hc
    refine ⟨fun w0 G ρb ρ1 a W hlen r hs hd => ?_⟩
    have hcv := ev_is hs c
    simp only [exec, tryCond] at h
    split at h
    · rename_i hv
      rw [hv] at hcv
      exact wp_cond_true (Option.some.inj hcv).symm ((ihx _ K hc.1 h).run w0 G ρb ρ1 a W hlen r hs hd)
    · rename_i hv
      rw [hv] at hcv
      exact wp_cond_false (Option.some.inj hcv).symm ((ihy _ K hc.2 h).run w0 G ρb ρ1 a W hlen r hs hd)
    · rename_i b hv
      rw [hv] at hcv
      have hval : a.eval c = .bool b := (Option.some.inj hcv).symm
      split at h
      · rename_i i
        have hset : ∀ x : SV, x.is (ρb ++ ρ1) (.bool b) → IsS (ρb ++ ρ1) (st.t.set i x) a.tmps.toList := fun x hx => by
          have hlt : i < a.tmps.size := tmps_lt hs (v := .c (.bool b)) hv (by simp)
          have hval' : a.tmps.getD i undef = .bool b := hval
          have := hs.set i hx
          have e : a.tmps.toList.set i (.bool b) = a.tmps.toList := by
            rw [Array.getD_eq_getD_getElem?, Array.getElem?_eq_getElem hlt] at hval'
            simp only [Option.getD_some] at hval'
            rw [← hval']
            have : a.tmps[i] = a.tmps.toList[i]'(by simpa using hlt) := by simp
            rw [this, List.set_getElem_self]
          rw [e] at this
          exact this
        cases b with
        | true => exact wp_cond_true hval ((ihx ⟨st.t.set i (.c .tt), st.h⟩ K hc.1 (h.1 rfl)).run w0 G ρb ρ1 a W hlen r (hset (.c .tt) rfl) hd)
        | false => exact wp_cond_false hval ((ihy ⟨st.t.set i (.c .ff), st.h⟩ K hc.2 (h.2 rfl)).run w0 G ρb ρ1 a W hlen r (hset (.c .ff) rfl) hd)
      · cases b with
        | true => exact wp_cond_true hval ((ihx _ K hc.1 (h.1 rfl)).run w0 G ρb ρ1 a W hlen r hs hd)
        | false => exact wp_cond_false hval ((ihy _ K hc.2 (h.2 rfl)).run w0 G ρb ρ1 a W hlen r hs hd)
    · exact h.elim
  | block id c ih =>
    intro st K hc h
    have h1 := ih st _ hc h
    refine ⟨fun w0 G ρb ρ1 a W hlen r hs hd => wp_block (Code.wp_mono (fun e a W hq => ?_) (h1.run w0 G ρb ρ1 a W hlen r hs hd))⟩
    obtain ⟨ex, st', ρ', he, r', hs', hd', hk⟩ := hq
    cases ex with
    | normal =>
      cases e <;> try exact he.elim
      exact ⟨.normal, st', ρ', trivial, r', hs', hd', hk⟩
    | exit i =>
      cases e <;> try exact he.elim
      rename_i j
      have he' : i = j := he
      subst he'
      simp only [Exit.inBlock]
      by_cases hi : i = id
      · rw [if_pos hi]
        simp only [hi, beq_self_eq_true, if_true] at hk
        exact ⟨.normal, st', ρ', trivial, r', hs', hd', hk⟩
      · rw [if_neg hi]
        have : (i == id) = false := by simpa using hi
        simp only [this, Bool.false_eq_true, if_false] at hk
        exact ⟨.exit i, st', ρ', rfl, r', hs', hd', hk⟩
    | ret =>
      cases e <;> try exact he.elim
      exact ⟨.ret, st', ρ', he, r', hs', hd', hk⟩
  | loop c ih =>
    intro st K hc h
    simp only [exec] at h
    split at h
    · exact hL c st K hc h
    · rename_i n _
      refine ⟨fun w0 G ρb ρ1 a W hlen r hs hd => wp_loop_rounds (n + 1) ?_⟩
      have key : ∀ (n : Nat) (st : St) (ρ1 : List Pl) (a : Act) (W : World), loopN (fun st K => exec N M c st K) n st K → Rel w0 G (ρb ++ ρ1) st.h W → IsS (ρb ++ ρ1) st.t a.tmps.toList → a.defers = [] → Code.rounds P c (Sat w0 G ρb K) n a W := by
        intro n
        induction n with
        | zero => intro st ρ1 a W h _ _ _; exact h.elim
        | succ n ih2 =>
          intro st ρ1 a W h r hs hd
          rw [rounds_succ]
          refine Code.wp_mono (fun e a W hq => ?_) ((ih st _ hc h).run w0 G ρb ρ1 a W hlen r hs hd)
          obtain ⟨ex, st', ρ2, he, r2, hs2, hd2, hk⟩ := hq
          cases ex with
          | normal =>
            cases e <;> try exact (show False from he).elim
            exact ih2 st' ρ2 a W hk r2 hs2 hd2
          | exit i =>
            cases e <;> try exact (show False from he).elim
            exact ⟨.exit i, st', ρ2, he, r2, hs2, hd2, hk⟩
          | ret =>
            cases e <;> try exact (show False from he).elim
            exact ⟨.ret, st', ρ2, he, r2, hs2, hd2, hk⟩
      exact key (n + 1) st ρ1 a W h r hs hd
  | exit id => intro st K _ h; exact ⟨fun w0 G ρb ρ1 a W hlen r hs hd => wp_exit ⟨.exit id, st, ρ1, rfl, r, hs, hd, h⟩⟩
  | ret => intro st K _ h; exact ⟨fun w0 G ρb ρ1 a W hlen r hs hd => wp_ret ⟨.ret, st, ρ1, trivial, r, hs, hd, h⟩⟩
  | label l => intro st K _ h; exact ⟨fun w0 G ρb ρ1 a W hlen r hs hd => wp_label ⟨.normal, st, ρ1, trivial, r, hs, hd, h⟩⟩
  | _ => intro st K _ h; exact (show False from h).elim
end
end Go.Proofs.Ytcgoaicifjndpaa.Vx
end

section
/- The walker is sound: functions; contracts of functions that only compute. -/
namespace Go.Proofs.Ytcgoaicifjndpaa.Vx
open Go.RowKit
set_option linter.unusedVariables false
set_option linter.unusedSimpArgs false

theorem loadR_ok {P : Program} {E : Tbl} (hE : E.Ok P) {w0 W : World} {G : Gs} {ρ : List Pl} {h : List Ent} (r : Rel w0 G ρ h W) {t : Nat} {x v : SV} {u : Value} (hx : x.is ρ u) (hl : loadR .std E h t x = .ok v) :
    ∃ y, v.is ρ y ∧ (do loadVar t (← asAddr u) : Sem Value).run P W = .ok y W := by
  unfold loadR at hl
  split at hl
  rotate_left
  · repeat' split at hl
    all_goals cases hl
  · repeat' split at hl
    all_goals cases hl
  · cases hl
  · rename_i k off
    split at hl
    · rename_i i ty2 cs hi hk
      obtain ⟨i1, d1, z1, T1⟩ := TI.spec (hE.T t i hi)
      obtain ⟨p, hp, rfl⟩ := den_ptr hx
      obtain ⟨vs, hv, hb⟩ := r.ok k _ p hk hp
      have ha := ag_ok hv i.agg off i.size
      rw [hl] at ha
      obtain ⟨y, h1, h2⟩ := ha
      refine ⟨y, h1, ?_⟩
      simp only [asAddr, Sem.run_bind, Sem.run_pure, Result.andThen_ok]
      rw [T1.agg, ← T1.size] at h2
      exact run_loadVar T1.info T1.und hb h2
    · cases hl

def resOf (tmps : Array Value) : ResultVar → Sem Value
  | .tmp t => pure (tmps.getD t undef)
  | .cell b t => do loadVar t (← asAddr (tmps.getD b undef))

theorem results_eq (fn : Func) (tmps : Array Value) : results fn tmps = (do
    let vs ← fn.results.mapM (resOf tmps)
    pure (if h : vs.size = 1 then vs[0] else .tuple vs)) := by
  unfold results
  congr 1

theorem retVal_ok {P : Program} {E : Tbl} (hE : E.Ok P) {w0 W : World} {G : Gs} {ρ : List Pl} {st : St} (r : Rel w0 G ρ st.h W) {a : Act} (hs : IsS ρ st.t a.tmps.toList) {x : ResultVar} {v : SV} (h : retVal .std E st x = some v) :
    ∃ y, v.is ρ y ∧ (resOf a.tmps x).run P W = .ok y W := by
  cases x with
  | tmp t =>
    simp only [retVal, Option.some.injEq] at h
    subst h
    exact ⟨_, tmps_get hs t, rfl⟩
  | cell b t =>
    simp only [retVal] at h
    split at h
    · rename_i v' hv
      simp only [Option.some.injEq] at h
      subst h
      exact loadR_ok hE r (tmps_get hs b) hv
    · cases h

theorem elt_is {ρ : List Pl} {v : SV} {u : Value} {e : Option CV × List CV} (h : eltOf v = some e) (hv : v.is ρ u) : Elt ρ e u := by
  cases v <;> simp only [eltOf] at h <;> try (cases h; done)
  · cases h; exact hv
  · cases h; exact hv

theorem rets_ok {P : Program} {E : Tbl} (hE : E.Ok P) {w0 W : World} {G : Gs} {ρ : List Pl} {st : St} (r : Rel w0 G ρ st.h W) {a : Act} (hs : IsS ρ st.t a.tmps.toList) :
    ∀ (xs : List ResultVar) (es : List (Option CV × List CV)), eltsOf (xs.map (retVal .std E st)) = some es → ∃ ys, Elts ρ es ys ∧ (xs.mapM (resOf a.tmps)).run P W = .ok ys W
  | [], es, h => by simp [eltsOf] at h; subst h; exact ⟨[], rfl, rfl⟩
  | x :: xs, es, h => by
    simp only [List.map_cons] at h
    cases hx : retVal .std E st x with
    | none => rw [hx] at h; simp [eltsOf] at h
    | some v =>
      rw [hx] at h
      simp only [eltsOf] at h
      split at h
      · rename_i e es' he hes
        simp only [Option.some.injEq] at h
        subst h
        obtain ⟨y, h1, h2⟩ := retVal_ok (P := P) hE r hs hx
        obtain ⟨ys, h3, h4⟩ := rets_ok hE r hs xs es' hes
        refine ⟨y :: ys, ⟨y, ys, rfl, elt_is he h1, h3⟩, ?_⟩
        rw [List.mapM_cons, Sem.run_bind, h2, Result.andThen_ok, Sem.run_bind, h4]
        rfl
      · cases h

theorem fin_ok {P : Program} {E : Tbl} (hE : E.Ok P) {w0 W : World} {G : Gs} {ρ : List Pl} {st : St} (r : Rel w0 G ρ st.h W) {a : Act} (hs : IsS ρ st.t a.tmps.toList) {fn : Func} {Q : SV → List Ent → Prop} {ex : Ex}
    (h : fin .std E fn.results.toList Q ex st) : ∃ v y, v.is ρ y ∧ (results fn a.tmps).run P W = .ok y W ∧ Q v st.h := by
  have hres : ∀ ys : List Value, (fn.results.toList.mapM (resOf a.tmps)).run P W = .ok ys W → (results fn a.tmps).run P W = .ok (if h : ys.toArray.size = 1 then ys.toArray[0] else .tuple ys.toArray) W := fun ys hy => by
    rw [results_eq, Sem.run_bind, Array.mapM_eq_mapM_toList, Sem.run_map, hy]
    rfl
  have h' : match fn.results.toList with
    | [x] => match retVal .std E st x with
      | some v => Q v st.h
      | none => False
    | xs => match eltsOf (xs.map (retVal .std E st)) with
      | some es => Q (.tup es) st.h
      | none => False := by
    cases ex <;> first | exact h | exact (show False from h).elim
  clear h
  split at h'
  · rename_i x hx
    rw [hx] at hres
    split at h'
    · rename_i v hv
      obtain ⟨y, h1, h2⟩ := retVal_ok (P := P) hE r hs hv
      refine ⟨v, y, h1, ?_, h'⟩
      have := hres [y] (by
        rw [List.mapM_cons, Sem.run_bind, h2]
        rfl)
      simpa using this
    · exact h'.elim
  · rename_i hne
    split at h'
    · rename_i es hes
      obtain ⟨ys, h1, h2⟩ := rets_ok (P := P) hE r hs _ es hes
      refine ⟨.tup es, .tuple ys.toArray, ⟨ys, h1, rfl⟩, ?_, h'⟩
      have := hres ys h2
      rw [this]
      have hl : ys.length ≠ 1 := fun hl => by
        have e1 : ∀ (es : List (Option CV × List CV)) (ys : List Value), Elts ρ es ys → es.length = ys.length := by
          intro es
          induction es with
          | nil => intro ys h; cases h; rfl
          | cons e es ih => intro ys h; obtain ⟨u, us, rfl, _, h2⟩ := h; simp [ih us h2]
        have e2 : ∀ (xs : List (Option SV)) (es : List (Option CV × List CV)), eltsOf xs = some es → xs.length = es.length := by
          intro xs
          induction xs with
          | nil => intro es h; simp [eltsOf] at h; subst h; rfl
          | cons x xs ih =>
            intro es h
            cases x with
            | none => simp [eltsOf] at h
            | some v =>
              simp only [eltsOf] at h
              split at h
              · rename_i e es' he hes'
                simp only [Option.some.injEq] at h
                subst h
                simp [ih es' hes']
              · cases h
        have e3 := e1 _ _ h1
        have e4 := e2 _ _ hes
        simp only [List.length_map] at e4
        have e5 : fn.results.toList.length = 1 := by omega
        obtain ⟨x, hx⟩ := List.length_eq_one_iff.1 e5
        exact hne x hx
      rw [dif_neg (by simpa using hl)]
    · exact h'.elim

/-- The walker, at a function: from entries that are known. -/
theorem fn_ok {P : Program} {N : Env} (hA : N.A = .std) (hE : N.E.Ok P) (hC : CtsOk P N.C) (hm : P.follows .mixedOrders = true) (M : List Nat)
    {f : FuncId} {fn : Func} {c : Code} {n : Nat} {res : List ResultVar} (hf : P.funcs[f]? = some fn) (hb : fn.body = some c) (hn : fn.ntmps = n) (hr : fn.results.toList = res) (hc : codeOk N.R c = true)
    {args : List SV} {us : List Value} {ρ : List Pl} {h : List Ent} {w0 w : World} {G : Gs} (hL : ∀ c st K, codeOk N.R c = true → N.L c st K → Runs P h.length (.loop c) st K) (r : Rel w0 G ρ h w) (hs : IsS ρ args us) (Q : SV → List Ent → Prop)
    (hx : exec N M c ⟨args ++ List.replicate (n - args.length) .und, h⟩ (fin N.A N.E res Q)) :
    Calls P f us.toArray w fun e W' => ∃ v u ρ' h', e = .returned u ∧ v.is (ρ ++ ρ') u ∧ Rel w0 G (ρ ++ ρ') h' W' ∧ Q v h' := by
  refine calls_of_wp hf hb ?_
  have hlen := hs.len
  have hargs : IsS ρ (args ++ List.replicate (n - args.length) .und) (us.toArray ++ Array.replicate (fn.ntmps - us.toArray.size) undef).toList := by
    simp only [Array.toList_append, Array.toList_replicate, List.size_toArray, hn, ← hlen]
    exact hs.append (IsS.undefs _)
  refine Code.wp_mono (fun e a W hq => ?_) ((exec_ok hA hE hC hL hm M c _ _ hc hx).run w0 G ρ [] _ w r.len (by rw [List.append_nil]; exact r) (by rw [List.append_nil]; exact hargs) rfl)
  obtain ⟨ex, st, ρ', he, r', hs', hd, hk⟩ := hq
  rw [← hr, hA] at hk
  obtain ⟨v, y, h1, h2, h3⟩ := fin_ok (P := P) hE r' hs' hk
  cases ex with
  | normal =>
    cases e <;> try exact (show False from he).elim
    exact bodyPost_end h2 hd ⟨v, y, ρ', st.h, rfl, h1, r', h3⟩
  | exit i => exact (show False from hk).elim
  | ret =>
    cases e <;> try exact (show False from he).elim
    exact bodyPost_ret h2 hd ⟨v, y, ρ', st.h, rfl, h1, r', h3⟩

/-! ### Values without a place -/
def pfe : List (Option CV × List CV) → Bool
  | [] => true
  | (some x, _) :: r => x.pf && pfe r
  | (none, cs) :: r => pfs cs && pfe r
def SV.pf : SV → Bool
  | .c x => x.pf
  | .agg cs => pfs cs
  | .tup vs => pfe vs
  | .und => true
  | .any => true
  | .fn _ cs => pfs cs
def pfa : List SV → Bool
  | [] => true
  | x :: xs => x.pf && pfa xs

theorem elts_pf {vs : List (Option CV × List CV)} (h : pfe vs = true) {ρ : List Pl} {us : List Value} (k : Elts ρ vs us) (ρ' : List Pl) : Elts ρ' vs us := by
  induction vs generalizing us with
  | nil => exact k
  | cons e es ih =>
    obtain ⟨u, us', rfl, h1, h2⟩ := k
    obtain ⟨_ | x, cs⟩ := e
    · simp only [pfe, Bool.and_eq_true] at h
      obtain ⟨vs, g1, g2⟩ := h1
      exact ⟨u, us', rfl, ⟨vs, isL_pf h.1 g1 ρ', g2⟩, ih h.2 h2⟩
    · simp only [pfe, Bool.and_eq_true] at h
      exact ⟨u, us', rfl, (CV.den_pf h.1 ρ' ρ).trans h1, ih h.2 h2⟩
theorem SV.is_pf {v : SV} (h : v.pf = true) {ρ : List Pl} {u : Value} (k : v.is ρ u) (ρ' : List Pl) : v.is ρ' u := by
  cases v with
  | c x => exact (CV.den_pf h ρ' ρ).trans k
  | agg cs => obtain ⟨vs, h1, h2⟩ := k; exact ⟨vs, isL_pf h h1 ρ', h2⟩
  | tup vs => obtain ⟨us, h1, h2⟩ := k; exact ⟨us, elts_pf h h1 ρ', h2⟩
  | und => exact k
  | any => trivial
  | fn f cs => obtain ⟨vs, h1, h2⟩ := k; exact ⟨vs, isL_pf h h1 ρ', h2⟩
theorem isS_pf {xs : List SV} (h : pfa xs = true) {ρ : List Pl} {us : List Value} (k : IsS ρ xs us) (ρ' : List Pl) : IsS ρ' xs us := by
  induction xs generalizing us with
  | nil => exact k
  | cons x xs ih =>
    simp only [pfa, Bool.and_eq_true] at h
    obtain ⟨u, us', rfl, h1, h2⟩ := k
    exact ⟨u, us', rfl, SV.is_pf h.1 h1 ρ', ih h.2 h2⟩

def callable (P : Program) (f : FuncId) : Bool :=
  match P.funcs[f]? with
  | some fn => !fn.body.isNone && !(fn.name == "runtime.NumGoroutine")
  | none => false
theorem callable_spec {P : Program} {f : FuncId} (h : callable P f = true) : ∃ fn, P.funcs[f]? = some fn ∧ fn.body.isNone = false ∧ (fn.name == "runtime.NumGoroutine") = false := by
  unfold callable at h
  split at h
  · rename_i fn hf
    simp only [Bool.and_eq_true, Bool.not_eq_true'] at h
    exact ⟨fn, hf, h.1, h.2⟩
  · cases h

/-- A function that only computes: its arguments and its result hold no place. -/
structure Pure (P : Program) (f : FuncId) (spec : List SV → Option (Prop × SV)) : Prop where
  fn : callable P f = true
  run : ∀ args pre res, spec args = some (pre, res) → pre → ∀ us, IsS [] args us → ∀ W, Calls P f us.toArray W fun e W' => ∃ u, e = .returned u ∧ res.is [] u ∧ Below W.heap.size W W'

def appPure (spec : List SV → Option (Prop × SV)) : App := fun args h =>
  match pfa args with
  | true => match spec args with
    | some (pre, res) => some ⟨pre, res, h, []⟩
    | none => none
  | false => none

/-- Frozen in time: nothing that was there has turned. -/
theorem Rel.belowStep {w0 : World} {G : Gs} {ρ : List Pl} {h : List Ent} {W W' : World} (r : Rel w0 G ρ h W) (b : Below W.heap.size W W') : Rel w0 G ρ h W' := by
  refine ⟨r.len, fun k e p he hp => Ent.ok_of_block (r.ok k e p he hp) fun c hc => b.block c (r.dep_lt he hp hc), fun k c hf => ⟨Nat.lt_of_lt_of_le (r.own k c hf).1 b.size, (r.own k c hf).2⟩, r.dis,
    fun i hi hG => (b.block i (Nat.lt_of_lt_of_le hi r.size)).trans (r.kept i hi hG), fun k e p he hp => Ent.dat_mono (r.dat k e p he hp) (r.datStep b.size (fun j c hf => Or.inl ⟨j, hf⟩) fun c hc _ _ => b.block c hc) (fun c hc => b.block c (r.own k c (by rw [fp_mk he hp]; exact hc)).1), b.os.trans r.os, b.tape.trans r.tape, b.output.trans r.output, Nat.le_trans r.size b.size⟩

theorem Rel.toBelow {w W : World} {ρ : List Pl} {h : List Ent} (r : Rel w (Gs.all []) ρ h W) : Below w.heap.size w W :=
  ⟨r.os, r.tape, r.output, r.size, fun k hk => r.kept k hk (by simp)⟩

theorem Pure.ct {P : Program} {f : FuncId} {spec : List SV → Option (Prop × SV)} (h : Pure P f spec) : CtOk P f (appPure spec) := by
  have hsp : ∀ args hp r, appPure spec args hp = some r → pfa args = true ∧ spec args = some (r.pre, r.res) ∧ r.h = hp ∧ r.ms = [] := fun args hp r hr => by
    unfold appPure at hr
    split at hr
    · split at hr
      · rename_i h1 _ pre res h2
        simp only [Option.some.injEq] at hr
        subst hr
        exact ⟨h1, h2, rfl, rfl⟩
      · cases hr
    · cases hr
  refine ⟨callable_spec h.fn, fun args hp r hr => ?_, fun args hp r hr hpre w0 G ρ W us rel hs => ?_⟩
  · obtain ⟨_, _, h3, _⟩ := hsp args hp r hr
    rw [h3]
    exact ⟨Nat.le_refl _, fun _ _ _ => rfl⟩
  · obtain ⟨h1, h2, h3, _⟩ := hsp args hp r hr
    refine Calls.mono (h.run args r.pre r.res h2 hpre us (isS_pf h1 hs []) W) fun e W' he => ?_
    obtain ⟨u, rfl, hu, hb⟩ := he
    refine ⟨u, [], rfl, ?_, ?_⟩
    · rw [List.append_nil]
      have := SV.is_app hu ρ
      simpa using this
    · rw [List.append_nil, h3]
      exact rel.belowStep hb
end Go.Proofs.Ytcgoaicifjndpaa.Vx
end
