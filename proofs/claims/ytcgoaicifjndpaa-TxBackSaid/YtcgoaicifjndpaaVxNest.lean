/- The walker: elements that hold slices. -/
import Derived.Test.YtcgoaicifjndpaaVxSound
namespace Go.Proofs.Ytcgoaicifjndpaa.Vx
open Go.RowKit
set_option linter.unusedVariables false
set_option linter.unusedSimpArgs false

theorem grownBy_refl (W : World) : W.grownBy W none := ⟨rfl, rfl, rfl, Nat.le_refl _, fun _ _ _ => rfl⟩
/-- One more entry, of what lies still. -/
theorem Rel.addS {w0 : World} {G : Gs} {ρ : List Pl} {h : List Ent} {W : World} (r : Rel w0 G ρ h W) {en : Ent} {q : Pl} (hf : en.fp q = none) (hok : en.ok (ρ ++ [q]) q W)
    (hdat : (∀ fr b, Dom w0 G ρ h W fr b → Dom w0 G (ρ ++ [q]) (h ++ [en]) W fr b) → en.dat W (Dom w0 G (ρ ++ [q]) (h ++ [en]) W) q) : Rel w0 G (ρ ++ [q]) (h ++ [en]) W :=
  r.bornE hok rfl (fun b hb => by rw [hf] at hb; cases hb) (grownBy_refl W) (fun b hb => by rw [hf] at hb; cases hb) fun hst => hdat fun fr b hd => (hst fr b hd).1

/-- Values that cells say. -/
def ShowsL (W : World) (D : Bool → Nat → Prop) : List Cell → List Value → Prop
  | [], us => us = []
  | c :: cs, us => ∃ u us', us = u :: us' ∧ c.shows W D u ∧ ShowsL W D cs us'
theorem ShowsL.mono {W W' : World} {D D' : Bool → Nat → Prop} (hD : ∀ fr b, D fr b → D' fr b ∧ W'.heap[b]? = W.heap[b]?) : ∀ {cs : List Cell} {us : List Value}, ShowsL W D cs us → ShowsL W' D' cs us
  | [], us, h => h
  | c :: cs, us, h => by
    obtain ⟨u, us', rfl, h1, h2⟩ := h
    exact ⟨u, us', rfl, Cell.shows_mono hD h1, ShowsL.mono hD h2⟩
theorem ShowsL.len {W : World} {D : Bool → Nat → Prop} : ∀ {cs : List Cell} {us : List Value}, ShowsL W D cs us → cs.length = us.length
  | [], us, h => by cases h; rfl
  | c :: cs, us, h => by
    obtain ⟨u, us', rfl, h1, h2⟩ := h
    simp [ShowsL.len h2]
theorem ShowsL.get {W : World} {D : Bool → Nat → Prop} : ∀ {cs : List Cell} {us : List Value}, ShowsL W D cs us → ∀ {j : Nat}, j < cs.length → ∃ v, us[j]? = some v ∧ (cs.getD j (.pl .tt)).shows W D v
  | [], us, h, j, hj => by simp at hj
  | c :: cs, us, h, 0, hj => by
    obtain ⟨u, us', rfl, h1, h2⟩ := h
    exact ⟨u, rfl, h1⟩
  | c :: cs, us, h, j + 1, hj => by
    obtain ⟨u, us', rfl, h1, h2⟩ := h
    obtain ⟨v, h3, h4⟩ := ShowsL.get h2 (j := j) (by simpa using hj)
    exact ⟨v, by simpa using h3, by simpa using h4⟩
theorem Cell.shows_one {W : World} {D : Bool → Nat → Prop} {c : Cell} {u : Value} (h : c.shows W D u) : u.oneCell' = true := by
  cases c with
  | pl x =>
    have := CV.den_oneCell (show x.den [] = some u from h)
    cases u <;> first | rfl | cases this
  | ns fr ty sz n g => obtain ⟨a, cap, rfl, _⟩ := h; rfl
  | es fr ty sz n g => obtain ⟨a, cap, rfl, _⟩ := h; rfl
theorem ShowsL.one {W : World} {D : Bool → Nat → Prop} : ∀ {cs : List Cell} {us : List Value}, ShowsL W D cs us → ∀ u ∈ us, u.oneCell' = true
  | [], us, h => by cases h; intro u hu; simp at hu
  | c :: cs, us, h => by
    obtain ⟨u, us', rfl, h1, h2⟩ := h
    intro v hv
    rcases List.mem_cons.1 hv with rfl | hv
    · exact Cell.shows_one h1
    · exact ShowsL.one h2 v hv
theorem takeC_len (f : Nat → Cell) : ∀ (n o : Nat), (takeC f o n).length = n
  | 0, _ => rfl
  | n + 1, o => by simp [takeC, takeC_len f n]
theorem takeC_get (f : Nat → Cell) : ∀ (n o j : Nat), j < n → (takeC f o n).getD j (.pl .tt) = f (o + j)
  | 0, _, _, h => by omega
  | n + 1, o, 0, _ => rfl
  | n + 1, o, j + 1, h => by
    have := takeC_get f n (o + 1) j (by omega)
    rw [takeC, List.getD_cons_succ, this]
    congr 1
    omega
theorem takeC_ok {W : World} {b o sz : Nat} {D : Bool → Nat → Prop} {f : Nat → Cell} (h : ∀ j, j < sz → ∃ v, W.cell? ⟨b, o + j, none⟩ = some v ∧ (f j).shows W D v) : ∀ (n off : Nat), off + n ≤ sz → ∃ us, ShowsL W D (takeC f off n) us ∧ us.length = n ∧ ∀ j v, us[j]? = some v → W.cell? ⟨b, o + (off + j), none⟩ = some v
  | 0, off, _ => ⟨[], rfl, rfl, fun j v hj => by simp at hj⟩
  | n + 1, off, hle => by
    obtain ⟨v, h1, h2⟩ := h off (by omega)
    obtain ⟨us, g1, g2, g3⟩ := takeC_ok h n (off + 1) (by omega)
    refine ⟨v :: us, ⟨v, us, rfl, h2, g1⟩, by simp [g2], fun j u hj => ?_⟩
    cases j with
    | zero => simp at hj; subst hj; exact h1
    | succ j =>
      have := g3 j u (by simpa using hj)
      rwa [show off + (j + 1) = off + 1 + j by omega]

theorem fp_addS {w0 : World} {G : Gs} {ρ : List Pl} {h : List Ent} {W : World} (r : Rel w0 G ρ h W) {en : Ent} {q : Pl} (hf : en.fp q = none) {j b : Nat} (h1 : fp (ρ ++ [q]) (h ++ [en]) j = some b) : ∃ i, fp ρ h i = some b := by
  obtain ⟨x, p, hx, hp, hb⟩ := fp_some h1
  rcases getElem?_snoc hx with ⟨g1, g2⟩ | ⟨g1, rfl⟩
  · rcases getElem?_snoc hp with ⟨k1, k2⟩ | ⟨k1, _⟩
    · exact ⟨j, by rw [fp_mk g2 k2]; exact hb⟩
    · rw [r.len] at k1; omega
  · rcases getElem?_snoc hp with ⟨k1, k2⟩ | ⟨k1, rfl⟩
    · rw [r.len] at k1; omega
    · rw [hf] at hb; cases hb
/-- Where a slice lies. -/
def plS (u : Value) : Pl := match u with
  | .slice (some ⟨b, o, none⟩) _ _ => ⟨b, u, o⟩
  | _ => ⟨0, u, 0⟩
theorem plS_v (u : Value) : (plS u).v = u := by
  unfold plS
  split <;> rfl
theorem nest_ok {fr : Bool} {w0 : World} {G : Gs} {W : World} : ∀ (cs : List Cell) {ρ : List Pl} {h : List Ent} {us : List Value}, Rel w0 G ρ h W → ShowsL W (subD (Dom w0 G ρ h W) fr) cs us →
    ∃ ρ', Rel w0 G (ρ ++ ρ') (h ++ (nestC fr h.length cs).2) W ∧ IsL (ρ ++ ρ') (nestC fr h.length cs).1 us
  | [], ρ, h, us, r, hs => by
    cases hs
    exact ⟨[], by simpa [nestC] using r, rfl⟩
  | .pl x :: cs, ρ, h, us, r, hs => by
    obtain ⟨u, us', rfl, h1, h2⟩ := hs
    obtain ⟨ρ', g1, g2⟩ := nest_ok cs r h2
    exact ⟨ρ', g1, IsL.cons (by simpa using CV.den_app h1 (ρ ++ ρ')) g2⟩
  | .ns fr' ty sz n g :: cs, ρ, h, us, r, hs => by
    obtain ⟨u, us', rfl, h1, h2⟩ := hs
    have hone : one u = true := by obtain ⟨a, cap, rfl, _⟩ := h1; rfl
    have hok : Ent.ok (ρ ++ [plS u]) (plS u) W (.data (fr || fr') ty sz n g) := by
      obtain ⟨a, cap, rfl, g2, g3⟩ := h1
      refine ⟨a, cap, plS_v _, g2, fun h0 => ?_⟩
      obtain ⟨b, o, rfl, _⟩ := g3 h0
      rfl
    have r1 := r.addS (en := .data (fr || fr') ty sz n g) (q := plS u) rfl hok fun hst => by
      show Cell.shows W (.ns (fr || fr') ty sz n g) _ (plS u).v
      rw [plS_v]
      obtain ⟨a, cap, g1, g2, g3⟩ := h1
      refine ⟨a, cap, g1, g2, fun h0 => ?_⟩
      obtain ⟨b, o, g4, g5, g6⟩ := g3 h0
      refine ⟨b, o, g4, ?_, fun i j hi hj => ?_⟩
      · cases fr
        · exact hst _ _ g5
        · exact hst true _ g5
      · obtain ⟨v, g7, g8⟩ := g6 i j hi hj
        refine ⟨v, g7, Cell.shows_mono (fun fr'' b' hb => ⟨?_, rfl⟩) g8⟩
        cases fr <;> cases fr' <;> first | exact hst fr'' _ hb | exact hst true _ hb
    have e : (h ++ [Ent.data (fr || fr') ty sz n g]).length = h.length + 1 := by simp
    obtain ⟨ρ', k1, k2⟩ := nest_ok (fr := fr) cs r1 (h2.mono fun fr'' b hb => ⟨by
      cases fr
      · exact Dom.mono (Nat.le_refl _) (fun j b' hf => Or.inl (fp_addS (en := .data _ ty sz n g) (q := plS u) r rfl hf)) _ _ hb
      · exact Dom.mono (Nat.le_refl _) (fun j b' hf => Or.inl (fp_addS (en := .data _ ty sz n g) (q := plS u) r rfl hf)) true _ hb, rfl⟩)
    rw [e] at k1 k2
    refine ⟨plS u :: ρ', ?_, ?_⟩
    · rw [List.append_assoc, List.append_assoc] at k1
      exact k1
    · rw [List.append_assoc] at k2
      refine IsL.cons ?_ k2
      show CV.den _ _ = _
      simp only [CV.den]
      rw [← r.len, List.getElem?_append_right (Nat.le_refl _)]
      simp [plS_v, hone]
  | .es fr' ty sz n g :: cs, ρ, h, us, r, hs => by
    obtain ⟨u, us', rfl, h1, h2⟩ := hs
    have hone : one u = true := by obtain ⟨a, cap, rfl, _⟩ := h1; rfl
    have hok : Ent.ok (ρ ++ [plS u]) (plS u) W (.elems ty sz n g) := by
      obtain ⟨a, cap, rfl, g2, g3⟩ := h1
      refine ⟨⟨a, cap, plS_v _, g2, fun h0 => ?_⟩, fun i hi => ?_⟩
      · obtain ⟨b, o, rfl, _⟩ := g3 h0
        rfl
      · obtain ⟨b, o, rfl, _, g6⟩ := g3 (by omega)
        exact g6 i hi
    have r1 := r.addS (en := .elems ty sz n g) (q := plS u) rfl hok fun hst h0 => by
      obtain ⟨a, cap, rfl, g2, g3⟩ := h1
      obtain ⟨b, o, rfl, g5, _⟩ := g3 h0
      show Dom w0 G _ _ W false b
      cases fr
      · exact Dom.weak (hst _ _ g5)
      · exact Dom.weak (hst true _ g5)
    have e : (h ++ [Ent.elems ty sz n g]).length = h.length + 1 := by simp
    obtain ⟨ρ', k1, k2⟩ := nest_ok (fr := fr) cs r1 (h2.mono fun fr'' b hb => ⟨by
      cases fr
      · exact Dom.mono (Nat.le_refl _) (fun j b' hf => Or.inl (fp_addS (en := .elems ty sz n g) (q := plS u) r rfl hf)) _ _ hb
      · exact Dom.mono (Nat.le_refl _) (fun j b' hf => Or.inl (fp_addS (en := .elems ty sz n g) (q := plS u) r rfl hf)) true _ hb, rfl⟩)
    rw [e] at k1 k2
    refine ⟨plS u :: ρ', ?_, ?_⟩
    · rw [List.append_assoc, List.append_assoc] at k1
      exact k1
    · rw [List.append_assoc] at k2
      refine IsL.cons ?_ k2
      show CV.den _ _ = _
      simp only [CV.den]
      rw [← r.len, List.getElem?_append_right (Nat.le_refl _)]
      simp [plS_v, hone]

theorem loadN_ok {P : Program} {N : Env} (hA : N.A = .std) (hE : N.E.Ok P) {w0 : World} {G : Gs} {ρ : List Pl} {st : St} {a : Act} {W : World} {o : Oper} {hS : List Ent} {Q : Exit → Act → World → Prop} {K : St → Prop} {next : Act → World → Prop}
    (r : Rel w0 G ρ st.h W) (hs : IsS ρ st.t a.tmps.toList) (hd : a.defers = []) (hl : Le hS st.h) (hl2 : hS.length ≤ st.h.length) (hn : Next w0 G ρ hS K next)
    {t : TypeId} {x : Operand} (ho : o.op = .load t x) (hK : loadN N t (ev st.t x) o.dst st K) : o.wp P a W next Q := by
  have he : ∀ x, (ev st.t x).is ρ (a.eval x) := ev_is hs
  unfold loadN at hK
  split at hK
  · rename_i k i sz off hx
    split at hK
    · rename_i ti fr sz' n get hti hk0
      obtain ⟨en, hk, hen⟩ := Option.bind_eq_some_iff.1 hk0
      split at hK
      · rename_i hb
        simp only [Bool.and_eq_true, Nat.beq_eq, Nat.ble_eq] at hb
        obtain ⟨rfl, hle⟩ := hb
        split at hK
        rename_i xs es hxs
        split at hK
        · rename_i v hv
          rw [hA] at hK
          have hin : i < n := hK.pre
          have hrest := hK.rest hK.pre
          have hx' := he x
          rw [hx] at hx'
          obtain ⟨p, hp, hu⟩ := den_eptr hx'
          obtain ⟨i1, d1, z1, T1⟩ := TI.spec (hE.T t ti hti)
          obtain ⟨_, hcell⟩ := Ent.dview_ok hen (r.ok k _ p hk hp) (r.dat k _ p hk hp)
          obtain ⟨us, g1, g2, g3⟩ := takeC_ok (f := get i) (fun j hj => hcell i j hin hj) ti.size off hle
          obtain ⟨ρ', k1, k2⟩ := nest_ok _ r g1
          rw [hxs] at k1 k2
          have hag := ag_ok k2 ti.agg 0 ti.size
          rw [hv] at hag
          obtain ⟨u, hu1, hu2⟩ := hag
          rw [T1.agg, ← T1.size] at hu2
          have hrun : (execOp a.eval o).run P W = .ok (.value u) W := by
            have := run_loadVar_at (P := P) T1.info T1.und (b := p.b) (o := p.o + i * sz + off) (off := 0) (W := W) (fun j v hj => by have := g3 j v hj; rwa [← Nat.add_assoc] at this) hu2
            rw [Nat.add_zero] at this
            simp only [execOp, ho, hu, Instr.loadAt, Instr.sureAddr, Sem.run_bind, Sem.run_pure, Result.andThen_ok, this]
          unfold Oper.wp
          rw [hrun, Oper.upon_value]
          exact hn ρ' _ _ _ k1 (put_is (hs.app_ρ _) hu1) (by rw [put_defers]; exact hd) (hl.append _) (by simp; omega) hrest
        · exact hK.elim
      · exact hK.elim
    · exact hK.elim
  · exact hK.elim

/-- What lies at a place is said in another way. -/
theorem Rel.setS {w0 : World} {G : Gs} {ρ : List Pl} {h : List Ent} {W : World} (r : Rel w0 G ρ h W) {i : Nat} {p : Pl} {e0 en : Ent} (hi : h[i]? = some e0) (hp : ρ[i]? = some p) (hf : ∀ b, en.fp p = some b → e0.fp p = some b) (hok : en.ok ρ p W)
    (hdat : (∀ fr b, Dom w0 G ρ h W fr b → Dom w0 G ρ (h.set i en) W fr b) → en.dat W (Dom w0 G ρ (h.set i en) W) p) : Rel w0 G ρ (h.set i en) W := by
  have hlt : i < h.length := (List.getElem?_eq_some_iff.1 hi).1
  have hget : ∀ j e, (h.set i en)[j]? = some e → (j = i ∧ e = en) ∨ (j ≠ i ∧ h[j]? = some e) := fun j e he => by
    by_cases hj : j = i
    · subst hj
      rw [List.getElem?_set_self hlt] at he
      exact Or.inl ⟨rfl, (Option.some.inj he).symm⟩
    · rw [List.getElem?_set_ne (fun e => hj e.symm)] at he
      exact Or.inr ⟨hj, he⟩
  have hfp : ∀ j b, fp ρ (h.set i en) j = some b → fp ρ h j = some b := fun j b hf' => by
    obtain ⟨e, q, he, hq, hx⟩ := fp_some hf'
    rcases hget j e he with ⟨rfl, rfl⟩ | ⟨hj, he'⟩
    · rw [hp] at hq
      cases hq
      rw [fp_mk hi hp]; exact hf b hx
    · rw [fp_mk he' hq]; exact hx
  have hst : ∀ fr b, Dom w0 G ρ h W fr b → Dom w0 G ρ (h.set i en) W fr b := Dom.mono (Nat.le_refl _) fun j b hf => Or.inl ⟨j, hfp j b hf⟩
  refine ⟨by rw [List.length_set]; exact r.len, fun j e q he hq => ?_, fun j b hf' => r.own j b (hfp j b hf'), fun j k b h1 h2 => r.dis j k b (hfp j b h1) (hfp k b h2), r.kept, fun j e q he hq => ?_, r.os, r.tape, r.output, r.size⟩
  · rcases hget j e he with ⟨rfl, rfl⟩ | ⟨hj, he'⟩
    · rw [hp] at hq
      cases hq
      exact hok
    · exact r.ok j e q he' hq
  · rcases hget j e he with ⟨rfl, rfl⟩ | ⟨hj, he'⟩
    · rw [hp] at hq
      cases hq
      exact hdat hst
    · exact Ent.dat_mono (r.dat j e q he' hq) (fun fr b hb => ⟨hst fr b hb, rfl⟩) fun _ _ => rfl

theorem Cell.shows_new {W : World} {D D' : Bool → Nat → Prop} {c : Cell} {u : Value} (hn : c.isNew) (hD : ∀ b, D true b → D' true b) (h : c.shows W D u) : c.shows W (subD D' true) u := by
  cases c with
  | pl x => exact h
  | ns fr ty sz n g =>
    have hn : fr = true := hn
    subst hn
    exact Cell.shows_fresh (D' := subD D' true) (fun b hb => ⟨hD b hb, rfl⟩) h
  | es fr ty sz n g =>
    have hn : fr = true := hn
    subst hn
    obtain ⟨a, cap, h1, h2, h3⟩ := h
    refine ⟨a, cap, h1, h2, fun h0 => ?_⟩
    obtain ⟨b, o, h4, h5, h6⟩ := h3 h0
    exact ⟨b, o, h4, hD b h5, h6⟩
theorem set_self {h : List Ent} {k : Nat} {e : Ent} (he : h[k]? = some e) : h.set k e = h := by
  obtain ⟨hk, rfl⟩ := List.getElem?_eq_some_iff.1 he
  exact List.set_getElem_self _
theorem frz1_len (h : List Ent) (k : Nat) : (frz1 h k).length = h.length := by
  unfold frz1
  split
  · simp
  · rfl
theorem frz1_get (h : List Ent) (k j : Nat) : (frz1 h k)[j]? = if j = k then (h[j]?).map frzE else h[j]? := by
  unfold frz1
  split
  · rename_i e he
    by_cases hj : j = k
    · subst hj
      rw [if_pos rfl, List.getElem?_set_self (List.getElem?_eq_some_iff.1 he).1, he]; rfl
    · rw [if_neg hj, List.getElem?_set_ne (fun e => hj e.symm)]
  · rename_i he
    by_cases hj : j = k
    · subst hj
      rw [if_pos rfl, he]; rfl
    · rw [if_neg hj]
theorem frzE_idem (e : Ent) : frzE (frzE e) = frzE e := by cases e <;> rfl
theorem frzs_len : ∀ (ks : List Nat) (h : List Ent), (frzs h ks).length = h.length
  | [], _ => rfl
  | k :: ks, h => by rw [frzs, frzs_len ks, frz1_len]
theorem frzs_get : ∀ (ks : List Nat) (h : List Ent) (j : Nat), (frzs h ks)[j]? = if j ∈ ks then (h[j]?).map frzE else h[j]?
  | [], _, _ => by simp [frzs]
  | k :: ks, h, j => by
    rw [frzs, frzs_get ks, frz1_get]
    by_cases hj : j = k
    · subst hj
      by_cases hm : j ∈ ks
      · rw [if_pos hm, if_pos rfl, if_pos (by simp), Option.map_map]
        cases h[j]? with
        | none => rfl
        | some e => simp [frzE_idem]
      · rw [if_neg hm, if_pos rfl, if_pos (by simp)]
    · by_cases hm : j ∈ ks
      · rw [if_pos hm, if_neg hj, if_pos (by simp [hm])]
      · rw [if_neg hm, if_neg hj, if_neg (by simp [hm, hj])]
theorem frzOk_mono {h h' : List Ent} (hh : ∀ (j : Nat) (ty : TypeId) (sz n : Nat) (g : Nat → Nat → Cell), h'[j]? = some (.orow ty sz n g) → h[j]? = some (.orow ty sz n g)) : ∀ {ks : List Nat}, frzOk h ks → frzOk h' ks
  | [], _ => trivial
  | k :: ks, hk => by
    simp only [frzOk] at hk ⊢
    split
    · rename_i ty sz n g he
      rw [hh k _ _ _ _ he] at hk
      exact ⟨hk.1, frzOk_mono hh hk.2⟩
    · refine frzOk_mono hh ?_
      split at hk
      · exact hk.2
      · exact hk
theorem Rel.frz1 {w0 : World} {G : Gs} {ρ : List Pl} {h : List Ent} {W : World} (r : Rel w0 G ρ h W) (k : Nat) (hnew : ∀ ty sz n g, h[k]? = some (.orow ty sz n g) → newR n sz g) : Rel w0 G ρ (frz1 h k) W := by
  unfold Vx.frz1
  split
  rotate_left
  · exact r
  rename_i e he
  obtain ⟨p, hp, hok⟩ := r.place he
  have hnot : ∀ en : Ent, en.fp p = none → ∀ b, e.fp p = some b → (∀ j, fp ρ (h.set k en) j ≠ some b) := fun en hen b hb j hj => by
    obtain ⟨x, q, hx, hq, hxb⟩ := fp_some hj
    by_cases hjk : j = k
    · subst hjk
      rw [List.getElem?_set_self (List.getElem?_eq_some_iff.1 he).1] at hx
      rw [hp] at hq
      cases hx; cases hq
      rw [hen] at hxb; cases hxb
    · rw [List.getElem?_set_ne (fun e => hjk e.symm)] at hx
      exact hjk (r.dis j k b (by rw [fp_mk hx hq]; exact hxb) (by rw [fp_mk he hp]; exact hb))
  have htrue : ∀ en : Ent, en.fp p = none → ∀ b, e.fp p = some b → Dom w0 G ρ (h.set k en) W true b := fun en hen b hb => by
    have := r.own k b (by rw [fp_mk he hp]; exact hb)
    exact ⟨this.2, this.1, hnot en hen b hb⟩
  cases e with
  | row ty sz n g =>
    refine r.setS (en := .elems ty sz n g) he hp (fun b hb => by cases hb) (Ent.view_ok (e := .row ty sz n g) rfl hok) fun hst h0 => Dom.weak (htrue (.elems ty sz n g) rfl p.b ?_)
    obtain ⟨vs, ⟨_, _, h3⟩, h4⟩ := hok
    rcases h4.2 with ⟨_, hn⟩ | ⟨g', cap, cur, hv, _⟩
    · omega
    · show p.v.ownBlock = some p.b
      rw [hv]
      have := h3 g' (by rw [hv]; rfl)
      rw [← this]; rfl
  | orow ty sz n g =>
    refine r.setS (en := .data true ty sz n g) he hp (fun b hb => by cases hb) hok.1 fun hst => ?_
    have hd := r.dat k _ p he hp
    obtain ⟨_, hcell⟩ := Ent.dview_ok (e := .orow ty sz n g) rfl hok hd
    obtain ⟨⟨a, cap, h1, h2, h3⟩, h4, h5⟩ := hok
    refine ⟨a, cap, h1, h2, fun h0 => ⟨p.b, p.o, h3 h0, ?_, fun i j hi hj => ?_⟩⟩
    · refine htrue (.data true ty sz n g) rfl p.b ?_
      obtain ⟨vs, h6, _⟩ := hd
      rcases h6.2 with ⟨_, hn⟩ | ⟨g', cap', cur, hv, _⟩
      · omega
      · show p.v.ownBlock = some p.b
        rw [hv]
        have := h5 g' (by rw [hv]; rfl)
        rw [← this]; rfl
    · obtain ⟨v, h6, h7⟩ := hcell i j hi hj
      exact ⟨v, h6, Cell.shows_new (D := Dom w0 G ρ h W) (hnew ty sz n g he i j hi hj) (fun b hb => hst true b hb) h7⟩
  | cells ty cs => rw [show frzE (.cells ty cs) = .cells ty cs from rfl, show h.set k (.cells ty cs) = h from set_self he]; exact r
  | bytes ty l => rw [show frzE (.bytes ty l) = .bytes ty l from rfl, show h.set k (.bytes ty l) = h from set_self he]; exact r
  | elems ty sz n g => rw [show frzE (.elems ty sz n g) = .elems ty sz n g from rfl, show h.set k (.elems ty sz n g) = h from set_self he]; exact r
  | glob ty sz n g => rw [show frzE (.glob ty sz n g) = .glob ty sz n g from rfl, show h.set k (.glob ty sz n g) = h from set_self he]; exact r
  | data fr ty sz n g => rw [show frzE (.data fr ty sz n g) = .data fr ty sz n g from rfl, show h.set k (.data fr ty sz n g) = h from set_self he]; exact r
  | dead => rw [show frzE .dead = .dead from rfl, show h.set k .dead = h from set_self he]; exact r
  | mp gs l => rw [show frzE (.mp gs l) = .mp gs l from rfl, show h.set k (.mp gs l) = h from set_self he]; exact r
  | mq t l => rw [show frzE (.mq t l) = .mq t l from rfl, show h.set k (.mq t l) = h from set_self he]; exact r
theorem Rel.frzs {w0 : World} {G : Gs} {ρ : List Pl} {W : World} : ∀ (ks : List Nat) {h : List Ent}, Rel w0 G ρ h W → frzOk h ks → Rel w0 G ρ (frzs h ks) W
  | [], h, r, _ => r
  | k :: ks, h, r, hk => by
    rw [Vx.frzs]
    have h1 : frzOk h ks := by
      simp only [frzOk] at hk
      split at hk
      · exact hk.2
      · exact hk
    refine Rel.frzs ks (r.frz1 k fun ty sz n g he => ?_) (frzOk_mono (fun j ty sz n g he => ?_) h1)
    · simp only [frzOk, he] at hk
      exact hk.1
    · rw [frz1_get] at he
      split at he
      · cases hj : h[j]? with
        | none => rw [hj] at he; cases he
        | some e =>
          rw [hj] at he
          cases e <;> cases he
      · exact he
/-- What lay still lies still. -/
theorem Dom.frzs {w0 : World} {G : Gs} {ρ : List Pl} {h : List Ent} {W : World} (ks : List Nat) : ∀ fr b, Dom w0 G ρ h W fr b → Dom w0 G ρ (frzs h ks) W fr b := by
  refine Dom.mono (Nat.le_refl _) fun j b hf => Or.inl ⟨j, ?_⟩
  obtain ⟨x, q, hx, hq, hb⟩ := fp_some hf
  rw [frzs_get] at hx
  split at hx
  · cases hj : h[j]? with
    | none => rw [hj] at hx; cases hx
    | some e =>
      rw [hj] at hx
      rw [fp_mk hj hq]
      cases e <;> cases hx <;> first | exact hb | cases hb
  · rw [fp_mk hx hq]; exact hb

theorem layC_ok {w0 : World} {G : Gs} {ρ : List Pl} {h : List Ent} {W : World} (r : Rel w0 G ρ h W) {KS : List Nat} (r1 : Rel w0 G ρ (frzs h KS) W) : ∀ {cs : List CV} {ls : List Cell} {ks : List Nat} {us : List Value}, layC h cs = some (ls, ks) → (∀ k ∈ ks, k ∈ KS) → IsL ρ cs us → ShowsL W (Dom w0 G ρ (frzs h KS) W) ls us
  | [], ls, ks, us, hl, _, hu => by
    cases hl
    cases us <;> simp [IsL] at hu ⊢
    exact rfl
  | x :: cs, ls, ks, us, hl, hk, hu => by
    cases us with
    | nil => simp [IsL] at hu
    | cons u us =>
      simp only [IsL, List.map_cons, List.cons.injEq] at hu
      obtain ⟨hu1, hu2⟩ := hu
      have plain : ∀ {ls' : List Cell} {ks' : List Nat}, layC h cs = some (ls', ks') → x.pf = true → (∀ k ∈ ks', k ∈ KS) → ShowsL W (Dom w0 G ρ (Vx.frzs h KS) W) (.pl x :: ls') (u :: us) := fun {ls' ks'} h1 h2 h3 =>
        ⟨u, us, rfl, (CV.den_pf h2 [] ρ).trans hu1, layC_ok r r1 h1 h3 hu2⟩
      cases x with
      | row k =>
        simp only [layC] at hl
        split at hl
        · rename_i ls' ks' h1
          obtain ⟨p, hp, rfl⟩ := den_row hu1
          split at hl
          · rename_i ty sz n g he
            cases hl
            refine ⟨_, us, rfl, ?_, layC_ok r r1 h1 hk hu2⟩
            obtain ⟨⟨a, cap, g1, g2, g3⟩, g4⟩ := r.ok k _ p he hp
            have gd := r.dat k _ p he hp
            exact ⟨a, cap, g1, g2, fun h0 => ⟨p.b, p.o, g3 h0, Dom.frzs KS _ _ (gd h0), g4⟩⟩
          · rename_i fr ty sz n g he
            cases hl
            refine ⟨_, us, rfl, ?_, layC_ok r r1 h1 hk hu2⟩
            exact Cell.shows_mono (c := .ns fr ty sz n g) (fun fr b hb => ⟨Dom.frzs KS fr b hb, rfl⟩) (r.dat k _ p he hp)
          · rename_i ty sz n g he
            cases hl
            have hm := hk k (by simp)
            refine ⟨_, us, rfl, ?_, layC_ok r r1 h1 (fun j hj => hk j (by simp [hj])) hu2⟩
            have he1 : (Vx.frzs h KS)[k]? = some (.elems ty sz n g) := by rw [frzs_get, if_pos hm, he]; rfl
            obtain ⟨⟨a, cap, g1, g2, g3⟩, g4⟩ := r1.ok k _ p he1 hp
            refine ⟨a, cap, g1, g2, fun h0 => ⟨p.b, p.o, g3 h0, ?_, g4⟩⟩
            have hf : fp ρ h k = some p.b := by
              rw [fp_mk he hp]
              obtain ⟨vs, ⟨_, _, q3⟩, q4⟩ := r.ok k _ p he hp
              rcases q4.2 with ⟨_, hn⟩ | ⟨g', cap, cur, hv, _⟩
              · omega
              · show p.v.ownBlock = some p.b
                rw [hv]
                have := q3 g' (by rw [hv]; rfl)
                rw [← this]; rfl
            have hown := (r.own k _ hf).2
            rcases r1.dat k _ p he1 hp h0 with hd | hd
            · rcases hown with ho | ho
              · exact absurd ho hd.2.1
              · exact absurd hd.1 (Nat.not_lt.2 ho)
            · exact hd
          · rename_i ty sz n g he
            cases hl
            have hm := hk k (by simp)
            refine ⟨_, us, rfl, ?_, layC_ok r r1 h1 (fun j hj => hk j (by simp [hj])) hu2⟩
            have he1 : (Vx.frzs h KS)[k]? = some (.data true ty sz n g) := by rw [frzs_get, if_pos hm, he]; rfl
            exact r1.dat k _ p he1 hp
          · cases hl
        · cases hl
      | _ =>
        simp only [layC] at hl
        split at hl
        · rename_i ls' ks' h1 h2
          cases hl
          exact plain h1 h2 hk
        · cases hl

theorem orow_ok {ρ : List Pl} {W : World} {e : TypeId} {sz n : Nat} {v : Value} {vs : List Value} {get : Nat → Nat → Cell} (h : W.ownsRow 0 e sz v n vs) : Ent.ok ρ ⟨v.ownBlock.getD 0, v, 0⟩ W (.orow e sz n get) := by
  refine ⟨?_, rfl, fun g hg => ?_⟩
  · rcases h.2 with ⟨hv, hn⟩ | ⟨g, cap, cur, hv, hg, hh, hr⟩
    · exact ⟨none, 0, by rw [hv, hn], by omega, fun h => by omega⟩
    · exact ⟨_, cap, hv, hr.1, fun _ => by rw [hv]; rfl⟩
  · have hg : v.ownBlock = some g := hg
    show g = v.ownBlock.getD 0
    rw [hg]; rfl
theorem orow_den {ρ' : List Pl} {k : Nat} {e : TypeId} {size : Nat} {v' : Value} {q : Pl} (hk : k = ρ'.length) (hq : q.v = v') (hw : ∃ n vs W', World.ownsRow W' 0 e size v' n vs) : (CV.row k).den (ρ' ++ [q]) = some v' := by
  subst hk hq
  obtain ⟨n, vs, W', hw⟩ := hw
  simp only [CV.den]
  rw [List.getElem?_append_right (Nat.le_refl _)]
  have h1 : one q.v = true := by
    rcases hw.2 with ⟨hv, _⟩ | ⟨g, cap, cur, hv, _⟩ <;> rw [hv] <;> rfl
  simp [h1]
theorem pushC_lt {n : Nat} {get : Nat → Nat → Cell} {cs : List Cell} {i j : Nat} (h : i < n) : pushC n get cs i j = get i j := by
  unfold pushC
  rw [show Nat.blt i n = true by rw [Nat.blt_eq]; exact h]
theorem pushC_eq {n : Nat} {get : Nat → Nat → Cell} {cs : List Cell} {j : Nat} : pushC n get cs n j = cs.getD j (.pl .tt) := by
  unfold pushC
  rw [show Nat.blt n n = false by rw [Bool.eq_false_iff, ne_eq, Nat.blt_eq]; omega]
theorem catC_lt {n : Nat} {get get2 : Nat → Nat → Cell} {i : Nat} (h : i < n) : catC n get get2 i = get i := by
  unfold catC
  rw [show Nat.blt i n = true by rw [Nat.blt_eq]; exact h]
theorem catC_ge {n : Nat} {get get2 : Nat → Nat → Cell} {i : Nat} (h : n ≤ i) : catC n get get2 i = get2 (i - n) := by
  unfold catC
  rw [show Nat.blt i n = false by rw [Bool.eq_false_iff, ne_eq, Nat.blt_eq]; omega]
theorem push_dat {W W' : World} {D D' : Bool → Nat → Prop} (hst : ∀ fr b, D fr b → D' fr b ∧ W'.heap[b]? = W.heap[b]?) {e : TypeId} {sz n : Nat} {get : Nat → Nat → Cell} {ls : List Cell} {v' : Value} {vs us : List Value} (hvl : vs.length = n * sz)
    (h1 : ∀ i j, i < n → j < sz → ∃ v, vs[i * sz + j]? = some v ∧ (get i j).shows W D v) (hu : ShowsL W D ls us) (hul : us.length = sz) (h2 : W'.ownsRow 0 e sz v' (n + 1) (vs ++ us)) (b : Nat) :
    Ent.dat W' D' ⟨b, v', 0⟩ (.orow e sz (n + 1) (pushC n get ls)) := by
  refine ⟨vs ++ us, h2, fun i j hi hj => ?_⟩
  rcases Nat.lt_or_ge i n with hlt | hge
  · rw [pushC_lt hlt]
    obtain ⟨v, g1, g2⟩ := h1 i j hlt hj
    have := (List.getElem?_eq_some_iff.1 g1).1
    exact ⟨v, by rw [List.getElem?_append_left this]; exact g1, Cell.shows_mono hst g2⟩
  · have : i = n := by omega
    subst this
    rw [pushC_eq]
    obtain ⟨v, g1, g2⟩ := hu.get (j := j) (by rw [hu.len, hul]; exact hj)
    refine ⟨v, ?_, Cell.shows_mono hst g2⟩
    rw [List.getElem?_append_right (by omega), hvl, Nat.add_sub_cancel_left]
    exact g1
theorem appN_ok {P : Program} {N : Env} (hA : N.A = .std) {w0 : World} {G : Gs} {ρ : List Pl} {st : St} {a : Act} {W : World} {o : Oper} {hS : List Ent} {Q : Exit → Act → World → Prop} {K : St → Prop} {next : Act → World → Prop}
    (r : Rel w0 G ρ st.h W) (hs : IsS ρ st.t a.tmps.toList) (hd : a.defers = []) (hl : Le hS st.h) (hl2 : hS.length ≤ st.h.length) (hn : Next w0 G ρ hS K next)
    {x y : Operand} {tx : TypeId} (ho : o.op = .call { callee := .builtin .append, args := #[x, y], argTypes := #[tx, tx] })
    {e : TypeId} {i : TypeInfo} {z : Value} {size bytes : Nat} (ht : P.underlying tx = some (.slice e)) (hi : P.info? e = some i) (hz : i.zero = some z) (hsize : i.size = size) (hby : i.bytes = bytes) (hzs : z.cells.size = size) (hsz : 0 < size)
    {cs : List CV} {us : List Value} {ad : Addr} {c : Nat} (hy : a.eval y = .slice (some ad) 1 c) (hus : us.length = size) (hcs : IsL ρ cs us) (hcells : ∀ j u, us[j]? = some u → W.cell? (ad.add j) = some u)
    (hK : appN N hS e size bytes (ev st.t x) cs o.dst st K) : o.wp P a W next Q := by
  have he : ∀ x, (ev st.t x).is ρ (a.eval x) := ev_is hs
  have hexec : ∀ {v' : Value} {W' : World}, (Builtin.append_ #[tx, tx] o.type #[a.eval x, a.eval y]).run P W = .ok v' W' → (execOp a.eval o).run P W = .ok (.value v') W' := fun {v' W'} h => by
    simp only [execOp, ho, resolve, invoke, builtin, Sem.run_bind, Sem.run_pure, Result.andThen_ok, List.map_toArray, List.map_cons, List.map_nil, h]
  unfold appN at hK
  rw [hA] at hK
  split at hK
  rotate_left
  · exact hK.elim
  rename_i ls ks hlay
  split at hK
  rotate_left
  · exact hK.elim
  rename_i hks
  have hks : ∀ k ∈ ks, maskedAt hS k = true := fun k hk => List.all_eq_true.1 hks k hk
  have hLe : ∀ j e, hS[j]? = some e → e = .dead ∨ (j ∉ ks ∧ (frzs st.h ks)[j]? = some e) := fun j e hj => by
    by_cases hm : j ∈ ks
    · exact Or.inl (maskedAt_spec (hks j hm) hj)
    · rcases hl j e hj with h | h
      · exact Or.inl h
      · exact Or.inr ⟨hm, by rw [frzs_get, if_neg hm]; exact h⟩
  split at hK
  · rename_i k hx
    split at hK
    · rename_i e' sz' n get hk
      split at hK
      · rename_i hb
        simp only [Bool.and_eq_true, Nat.beq_eq] at hb
        obtain ⟨⟨hb1, hb3⟩, hb2⟩ := hb
        subst hb1
        subst hb3
        have r1 := r.frzs ks hK.pre.2
        have hsL := layC_ok r r1 hlay (fun _ h => h) hcs
        have hx' := he x
        rw [hx] at hx'
        obtain ⟨p, hp, hu⟩ := den_row hx'
        obtain ⟨vs, hok, hshow⟩ := r1.dat k _ p hk hp
        obtain ⟨v', W', h1, h2, h3, h4⟩ := run_append_one (P := P) (t := o.type) (c := c) ht hi hz hsize hby hzs hsz hok hK.pre.1 hus hcells hsL.one
        unfold Oper.wp
        rw [hexec (by rw [hu, hy]; exact h1), Oper.upon_value]
        have hgr := r1.growE (en := .orow e size (n + 1) (pushC n get ls)) (q0 := ⟨v'.ownBlock.getD 0, v', 0⟩) hk hp rfl rfl (orow_ok h2) rfl (fun b hb => (World.ownsRow.lt h2 b hb).2) h3 h4 (fun hst => push_dat hst hok.1 hshow hsL hus h2 _)
        refine hn [⟨v'.ownBlock.getD 0, v', 0⟩] _ _ _ hgr (put_is (hs.app_ρ _) (v := .c (.row st.h.length)) (u := v') (orow_den r.len.symm rfl ⟨_, _, _, h2⟩)) (by rw [put_defers]; exact hd) ?_ (by simp [frzs_len]; omega) (hK.rest hK.pre)
        intro j e he'
        by_cases hj : j = k
        · subst hj; exact Or.inl (maskedAt_spec hb2 he')
        · rcases hLe j e he' with h5 | ⟨_, h5⟩
          · exact Or.inl h5
          · right
            rw [List.getElem?_append_left (by rw [List.length_set]; exact (List.getElem?_eq_some_iff.1 h5).1), List.getElem?_set_ne (fun e => hj e.symm)]; exact h5
      · exact hK.elim
    · exact hK.elim
  · rename_i hx
    have hx' := he x
    rw [hx] at hx'
    have hu : a.eval x = .slice none 0 0 := (Option.some.inj hx').symm
    have r1 := r.frzs ks hK.pre.2
    have hsL := layC_ok r r1 hlay (fun _ h => h) hcs
    obtain ⟨v', W', h1, h2, h3, h4⟩ := run_append_one (P := P) (t := o.type) (c := c) (vs := []) ht hi hz hsize hby hzs hsz (World.ownsRow_nil W 0 e size) hK.pre.1 hus hcells hsL.one
    unfold Oper.wp
    rw [hexec (by rw [hu, hy]; exact h1), Oper.upon_value]
    have hgr := r1.bornE (en := .orow e size 1 (pushC 0 (fun _ _ => .pl .tt) ls)) (q0 := ⟨v'.ownBlock.getD 0, v', 0⟩) (orow_ok h2) rfl (fun b hb => (World.ownsRow.lt h2 b hb).2) h3 (fun b hb => (h4 b hb).resolve_left (by simp [Value.ownBlock])) (fun hst => push_dat (n := 0) hst (by simp) (fun i j hi _ => absurd hi (by omega)) hsL hus h2 _)
    refine hn [⟨v'.ownBlock.getD 0, v', 0⟩] _ _ _ hgr (put_is (hs.app_ρ _) (v := .c (.row st.h.length)) (u := v') (orow_den r.len.symm rfl ⟨_, _, _, h2⟩)) (by rw [put_defers]; exact hd) ?_ (by simp [frzs_len]; omega) (hK.rest hK.pre)
    intro j e he'
    rcases hLe j e he' with h5 | ⟨_, h5⟩
    · exact Or.inl h5
    · right
      rw [List.getElem?_append_left (List.getElem?_eq_some_iff.1 h5).1]; exact h5
  · exact hK.elim

theorem appM_ok {P : Program} {N : Env} (hA : N.A = .std) {w0 : World} {G : Gs} {ρ : List Pl} {st : St} {a : Act} {W : World} {o : Oper} {hS : List Ent} {Q : Exit → Act → World → Prop} {K : St → Prop} {next : Act → World → Prop}
    (r : Rel w0 G ρ st.h W) (hs : IsS ρ st.t a.tmps.toList) (hd : a.defers = []) (hl : Le hS st.h) (hl2 : hS.length ≤ st.h.length) (hn : Next w0 G ρ hS K next)
    {x y : Operand} {tx : TypeId} (ho : o.op = .call { callee := .builtin .append, args := #[x, y], argTypes := #[tx, tx] })
    {e : TypeId} {i : TypeInfo} {z : Value} {size bytes : Nat} (ht : P.underlying tx = some (.slice e)) (hi : P.info? e = some i) (hz : i.zero = some z) (hsize : i.size = size) (hby : i.bytes = bytes) (hzs : z.cells.size = size) (hsz : 0 < size)
    {m : Nat} {get2 : Nat → Nat → Cell} {q : Pl} {ad : Option Addr} {c : Nat} (hy : a.eval y = .slice ad m c) (had : 0 < m → ad = some ⟨q.b, q.o, none⟩)
    (hget : ∀ i j, i < m → j < size → ∃ v, W.cell? ⟨q.b, q.o + i * size + j, none⟩ = some v ∧ (get2 i j).shows W (Dom w0 G ρ st.h W) v)
    (hK : appM N hS e size bytes (ev st.t x) m get2 o.dst st K) : o.wp P a W next Q := by
  have he : ∀ x, (ev st.t x).is ρ (a.eval x) := ev_is hs
  have hexec : ∀ {v' : Value} {W' : World}, (Builtin.append_ #[tx, tx] o.type #[a.eval x, a.eval y]).run P W = .ok v' W' → (execOp a.eval o).run P W = .ok (.value v') W' := fun {v' W'} h => by
    simp only [execOp, ho, resolve, invoke, builtin, Sem.run_bind, Sem.run_pure, Result.andThen_ok, List.map_toArray, List.map_cons, List.map_nil, h]
  obtain ⟨f, hf⟩ : ∃ f : Nat → List Value, ∀ i, i < m → ShowsL W (Dom w0 G ρ st.h W) (takeC (get2 i) 0 size) (f i) ∧ (f i).length = size ∧ ∀ j v, (f i)[j]? = some v → W.cell? ⟨q.b, q.o + i * size + j, none⟩ = some v := by
    have h1 : ∀ i, i < m → ∃ us, ShowsL W (Dom w0 G ρ st.h W) (takeC (get2 i) 0 size) us ∧ us.length = size ∧ ∀ j v, us[j]? = some v → W.cell? ⟨q.b, q.o + i * size + j, none⟩ = some v := fun i hi => by
      obtain ⟨us, g1, g2, g3⟩ := takeC_ok (f := get2 i) (fun j hj => hget i j hi hj) size 0 (by omega)
      exact ⟨us, g1, g2, fun j v hj => by have := g3 j v hj; rwa [Nat.zero_add] at this⟩
    refine ⟨fun i => if h : i < m then Classical.choose (h1 i h) else [], fun i h => ?_⟩
    dsimp only
    rw [dif_pos h]
    exact Classical.choose_spec (h1 i h)
  have hfl : ∀ i, i < m → (f i).length = size := fun i hi => (hf i hi).2.1
  have m2 : ad = none → m = 0 := fun h0 => by
    rcases Nat.eq_zero_or_pos m with h | h
    · exact h
    · rw [had h] at h0; cases h0
  have m3 := flatN_len m hfl
  have m4 : ∀ a, ad = some a → ∀ j u, (flatN f m)[j]? = some u → W.cell? (a.add j) = some u := fun a ha j u hu => by
    obtain ⟨i, r, h1, h2, h3⟩ := flatN_get m hfl j u hu
    have ha2 := had (by omega)
    rw [ha] at ha2
    obtain rfl := Option.some.inj ha2
    have := (hf i h1).2.2 r u h3
    rw [Addr.add_mid, h2, ← Nat.add_assoc]
    exact this
  have m5 : ∀ u ∈ flatN f m, u.oneCell' = true := fun u hu => by
    obtain ⟨j, hj, hjv⟩ := List.mem_iff_getElem.1 hu
    obtain ⟨i, r, h1, h2, h3⟩ := flatN_get m hfl j u (by rw [List.getElem?_eq_getElem hj, hjv])
    exact ShowsL.one (hf i h1).1 u (List.mem_of_getElem? h3)
  have hdat : ∀ {D' : Bool → Nat → Prop} {W' : World} (hst : ∀ fr b, Dom w0 G ρ st.h W fr b → D' fr b ∧ W'.heap[b]? = W.heap[b]?) {n : Nat} {get : Nat → Nat → Cell} {vs : List Value} {v' : Value} (hvl : vs.length = n * size)
      (h1 : ∀ i j, i < n → j < size → ∃ v, vs[i * size + j]? = some v ∧ (get i j).shows W (Dom w0 G ρ st.h W) v) (h2 : W'.ownsRow 0 e size v' (n + m) (vs ++ flatN f m)) (b : Nat), Ent.dat W' D' ⟨b, v', 0⟩ (.orow e size (n + m) (catC n get get2)) := fun {D' W'} hst {n get vs v'} hvl h1 h2 b => by
    refine ⟨vs ++ flatN f m, h2, fun i j hi hj => ?_⟩
    rcases Nat.lt_or_ge i n with hlt | hge
    · rw [catC_lt hlt]
      obtain ⟨v, g1, g2⟩ := h1 i j hlt hj
      have := (List.getElem?_eq_some_iff.1 g1).1
      exact ⟨v, by rw [List.getElem?_append_left this]; exact g1, Cell.shows_mono hst g2⟩
    · rw [catC_ge hge]
      obtain ⟨hs1, hs2, _⟩ := hf (i - n) (by omega)
      obtain ⟨v, g1, g2⟩ := hs1.get (j := j) (by rw [takeC_len]; exact hj)
      rw [takeC_get _ _ _ _ hj, Nat.zero_add] at g2
      refine ⟨v, ?_, Cell.shows_mono hst g2⟩
      have e1 : i * size + j = vs.length + ((i - n) * size + j) := by
        rw [hvl, ← Nat.add_assoc, ← Nat.add_mul]
        congr 2
        omega
      have hch := flatN_chunk m hfl (i - n) (by omega)
      have h3 := congrArg (fun l => l[j]?) hch
      simp only [List.getElem?_take, List.getElem?_drop, if_pos hj] at h3
      rw [e1, List.getElem?_append_right (by omega), Nat.add_sub_cancel_left, h3]
      exact g1
  unfold appM at hK
  rw [hA] at hK
  split at hK
  · rename_i k hx
    split at hK
    · rename_i e' sz' n get hk
      split at hK
      · rename_i hb
        simp only [Bool.and_eq_true, Nat.beq_eq] at hb
        obtain ⟨⟨hb1, hb3⟩, hb2⟩ := hb
        subst hb1
        subst hb3
        have hx' := he x
        rw [hx] at hx'
        obtain ⟨p, hp, hu⟩ := den_row hx'
        obtain ⟨vs, hok, hshow⟩ := r.dat k _ p hk hp
        obtain ⟨v', W', h1, h2, h3, h4⟩ := run_append_many (P := P) (t := o.type) (c := c) ht hi hz hsize hby hzs hsz hok hK.pre m2 m3 m4 m5
        unfold Oper.wp
        rw [hexec (by rw [hu, hy]; exact h1), Oper.upon_value]
        have hgr := r.growE (en := .orow e size (n + m) (catC n get get2)) (q0 := ⟨v'.ownBlock.getD 0, v', 0⟩) hk hp rfl rfl (orow_ok h2) rfl (fun b hb => (World.ownsRow.lt h2 b hb).2) h3 h4 (fun hst => hdat hst hok.1 hshow h2 _)
        refine hn [⟨v'.ownBlock.getD 0, v', 0⟩] _ _ _ hgr (put_is (hs.app_ρ _) (v := .c (.row st.h.length)) (u := v') (orow_den r.len.symm rfl ⟨_, _, _, h2⟩)) (by rw [put_defers]; exact hd) ?_ (by simp; omega) (hK.rest hK.pre)
        intro j e he'
        by_cases hj : j = k
        · subst hj; exact Or.inl (maskedAt_spec hb2 he')
        · rcases hl j e he' with h5 | h5
          · exact Or.inl h5
          · right
            rw [List.getElem?_append_left (by rw [List.length_set]; exact (List.getElem?_eq_some_iff.1 h5).1), List.getElem?_set_ne (fun e => hj e.symm)]; exact h5
      · exact hK.elim
    · exact hK.elim
  · rename_i hx
    have hx' := he x
    rw [hx] at hx'
    have hu : a.eval x = .slice none 0 0 := (Option.some.inj hx').symm
    obtain ⟨v', W', h1, h2, h3, h4⟩ := run_append_many (P := P) (t := o.type) (c := c) (vs := []) ht hi hz hsize hby hzs hsz (World.ownsRow_nil W 0 e size) hK.pre m2 m3 m4 m5
    unfold Oper.wp
    rw [hexec (by rw [hu, hy]; exact h1), Oper.upon_value]
    rw [Nat.zero_add] at h2
    have hgr := r.bornE (en := .orow e size m get2) (q0 := ⟨v'.ownBlock.getD 0, v', 0⟩) (orow_ok h2) rfl (fun b hb => (World.ownsRow.lt h2 b hb).2) h3 (fun b hb => (h4 b hb).resolve_left (by simp [Value.ownBlock])) (fun hst => by
      have := hdat hst (n := 0) (get := fun _ _ => .pl .tt) (vs := []) (v' := v') (by simp) (fun i j hi _ => absurd hi (by omega)) (by rw [Nat.zero_add]; exact h2) (v'.ownBlock.getD 0)
      rw [Nat.zero_add] at this
      obtain ⟨ws, k1, k2⟩ := this
      refine ⟨ws, k1, fun i j hi hj => ?_⟩
      have := k2 i j hi hj
      rw [catC_ge (Nat.zero_le _)] at this
      exact this)
    exact hn [⟨v'.ownBlock.getD 0, v', 0⟩] _ _ _ hgr (put_is (hs.app_ρ _) (v := .c (.row st.h.length)) (u := v') (orow_den r.len.symm rfl ⟨_, _, _, h2⟩)) (by rw [put_defers]; exact hd) (hl.append _) (by simp; omega) (hK.rest hK.pre)
  · exact hK.elim

theorem appD_ok {P : Program} {N : Env} (hA : N.A = .std) (hE : N.E.Ok P) {w0 : World} {G : Gs} {ρ : List Pl} {st : St} {a : Act} {W : World} {o : Oper} {hS : List Ent} {Q : Exit → Act → World → Prop} {K : St → Prop} {next : Act → World → Prop}
    (r : Rel w0 G ρ st.h W) (hs : IsS ρ st.t a.tmps.toList) (hd : a.defers = []) (hl : Le hS st.h) (hl2 : hS.length ≤ st.h.length) (hn : Next w0 G ρ hS K next)
    {x y : Operand} {tx ty : TypeId} (ho : o.op = .call { callee := .builtin .append, args := #[x, y], argTypes := #[tx, ty] })
    (hK : appD N hS tx ty (ev st.t x) (ev st.t y) o.dst st K) : o.wp P a W next Q := by
  have he : ∀ x, (ev st.t x).is ρ (a.eval x) := ev_is hs
  unfold appD at hK
  split at hK
  · rename_i ti hti
    split at hK
    · rename_i e hkd
      split at hK
      · rename_i ei hei
        obtain ⟨i0, d0, z0, T⟩ := TI.spec (hE.T tx ti hti)
        obtain ⟨i1, d1, z1, T1⟩ := TI.spec (hE.T e ei hei)
        have ht : P.underlying tx = some (.slice e) := by rw [T.und, kd_slice (T.kd.symm.trans hkd)]
        have hpos : Nat.beq ei.size 0 = false → 0 < ei.size := fun h => by
          rcases Nat.eq_zero_or_pos ei.size with h0 | h0
          · rw [h0] at h; cases h
          · exact h0
        split at hK
        · rename_i j off hy
          split at hK
          · rename_i ty2 cs htt hj
            have htt' : tx = ty := by simpa using htt
            subst htt'
            split at hK
            · rename_i hb
              simp only [Bool.and_eq_true, Nat.beq_eq, Bool.not_eq_true'] at hb
              obtain ⟨⟨hb2, hb3⟩, hb4⟩ := hb
              subst hb2
              have hy' := he y
              rw [hy] at hy'
              obtain ⟨p, hp, hu⟩ := den_sl hy'
              obtain ⟨vs, hv1, hv2⟩ := r.ok j _ p hj hp
              refine appN_ok (z := z1) hA r hs hd hl hl2 hn ho ht T1.info T1.zero T1.size T1.bytes T1.zsize (hpos hb4) hu (by rw [← hv1.len, hb3]) hv1 (fun q w hq => ?_) hK
              rw [Addr.add_mid, cell_of_row W p.b (0 + q) _ ty2 (0, 0) hv2]
              simpa using hq
            · exact hK.elim
          · exact hK.elim
        · rename_i j hy
          split at hK
          · rename_i fr sz' m get2 htt hvw
            have htt' : tx = ty := by simpa using htt
            subst htt'
            split at hK
            · rename_i hb
              simp only [Bool.and_eq_true, Nat.beq_eq, Bool.not_eq_true'] at hb
              obtain ⟨hb1, hb4⟩ := hb
              subst hb1
              have hy' := he y
              rw [hy] at hy'
              obtain ⟨p, hp, hu⟩ := den_row hy'
              obtain ⟨en, hen, hview⟩ := Option.bind_eq_some_iff.1 hvw
              obtain ⟨⟨ad, cap, hpv, _, had⟩, hget⟩ := Ent.dview_ok hview (r.ok j en p hen hp) (r.dat j en p hen hp)
              refine appM_ok (z := z1) (q := p) hA r hs hd hl hl2 hn ho ht T1.info T1.zero T1.size T1.bytes T1.zsize (hpos hb4) (hu.trans hpv) had (fun i j hi hj => ?_) hK
              obtain ⟨v, g1, g2⟩ := hget i j hi hj
              refine ⟨v, g1, Cell.shows_mono (fun fr' b hb => ⟨?_, rfl⟩) g2⟩
              cases fr with
              | false => exact hb
              | true =>
                cases fr' with
                | true => exact hb
                | false => exact Dom.weak (fr := true) hb
            · exact hK.elim
          · exact hK.elim
        · exact hK.elim
      · exact hK.elim
    · exact hK.elim
  · exact hK.elim

theorem upC_ne {get : Nat → Nat → Cell} {i off i' j : Nat} {cs : List Cell} (h : ¬ (i' = i ∧ off ≤ j ∧ j < off + cs.length)) : upC get i off cs i' j = get i' j := by
  unfold upC
  have : (Nat.beq i' i && Nat.ble off j && Nat.blt j (off + cs.length)) = false := by
    rw [Bool.eq_false_iff]
    intro hb
    simp only [Bool.and_eq_true, Nat.beq_eq, Nat.ble_eq, Nat.blt_eq] at hb
    exact h ⟨hb.1.1, hb.1.2, hb.2⟩
  rw [this]
theorem upC_eq {get : Nat → Nat → Cell} {i off j : Nat} {cs : List Cell} (h : off ≤ j ∧ j < off + cs.length) : upC get i off cs i j = cs.getD (j - off) (.pl .tt) := by
  unfold upC
  have : (Nat.beq i i && Nat.ble off j && Nat.blt j (off + cs.length)) = true := by
    simp only [Bool.and_eq_true, Nat.beq_eq, Nat.ble_eq, Nat.blt_eq]
    exact ⟨⟨trivial, h.1⟩, h.2⟩
  rw [this]
theorem storeN_ok {P : Program} {N : Env} (hA : N.A = .std) (hE : N.E.Ok P) {w0 : World} {G : Gs} {ρ : List Pl} {st : St} {a : Act} {W : World} {o : Oper} {hS : List Ent} {Q : Exit → Act → World → Prop} {K : St → Prop} {next : Act → World → Prop}
    (r : Rel w0 G ρ st.h W) (hs : IsS ρ st.t a.tmps.toList) (hd : a.defers = []) (hl : Le hS st.h) (hl2 : hS.length ≤ st.h.length) (hn : Next w0 G ρ hS K next)
    {ty : TypeId} {x y : Operand} (ho : o.op = .store ty x y) (hK : storeN N hS ty (ev st.t x) (ev st.t y) o.dst st K) : o.wp P a W next Q := by
  have he : ∀ x, (ev st.t x).is ρ (a.eval x) := ev_is hs
  unfold storeN at hK
  split at hK
  rotate_left
  · exact hK.elim
  rename_i k i sz off xs ti hx hy hi
  split at hK
  rotate_left
  · exact hK.elim
  rename_i ls ks hlay
  split at hK
  rotate_left
  · exact hK.elim
  rename_i e' sz' n get hk
  split at hK
  rotate_left
  · exact hK.elim
  rename_i hb
  simp only [Bool.and_eq_true, Nat.beq_eq, Nat.ble_eq, Bool.not_eq_true'] at hb
  obtain ⟨⟨⟨⟨⟨hb1, hb2⟩, hb3⟩, hks⟩, hb5⟩, hb6⟩ := hb
  subst hb1
  have hks : ∀ k ∈ ks, maskedAt hS k = true := fun k hk => List.all_eq_true.1 hks k hk
  rw [hA] at hK
  have hin : i < n := hK.pre.1
  have r1 := r.frzs ks hK.pre.2
  have hrest := hK.rest hK.pre
  have hx' := he x
  rw [hx] at hx'
  obtain ⟨p, hp, hu⟩ := den_eptr hx'
  obtain ⟨us, hu1, hu2⟩ := svCells_ok (he y) hy
  have hsL := layC_ok r r1 hlay (fun _ h => h) hu1
  obtain ⟨⟨a0, cap0, q1, q2, q3⟩, hg2, hg3⟩ := r1.ok k _ p hk hp
  obtain ⟨vs, hrow, hshow⟩ := r1.dat k _ p hk hp
  obtain ⟨i1, d1, z1, T1⟩ := TI.spec (hE.T ty ti hi)
  have hlen : us.length = xs.length := hu1.len.symm
  have hlsl : ls.length = us.length := hsL.len
  rcases hrow.2 with ⟨_, hn0⟩ | ⟨g, cap, cur, hpv, hg0, hgh, hnc, hcm, hcs, htake⟩
  · omega
  have hgb : g = p.b := hg3 g (by rw [hpv]; rfl)
  subst hgb
  have h1n := Nat.mul_le_mul_right sz (show i + 1 ≤ n from hin)
  have h1c := Nat.mul_le_mul_right sz hnc
  rw [Nat.add_mul, Nat.one_mul] at h1n
  have hcl : cur.toList.toArray = cur := by simp
  obtain ⟨g1, g2, g3, g4, g5, g6⟩ := heap_setCells p.b us (i * sz + off) W cur.toList e' (by rw [hcl]; exact hgh)
  rw [setV_fold] at g1
  have hthere : W.there p.b (i * sz + off) us.toArray.size := fun j hj => by
    have hj' : j < us.length := by simpa using hj
    constructor
    · rw [cell_of_row W p.b (i * sz + off + j) _ e' (0, 0) hgh]
      simp
      omega
    · simp [World.frozen?, hgh]
  have hpo : p.o + i * sz + off = i * sz + off := by rw [hg2]; omega
  have hrun : (execOp a.eval o).run P W = .ok .skip (W.setCells p.b (i * sz + off) us) := by
    simp only [execOp, ho, hu, Instr.storeAt, Instr.sureAddr, Sem.run_bind, Sem.run_pure, Result.andThen_ok]
    rw [cells_agg hu2, hpo, run_storeVar_mid W p.b (i * sz + off) ty us.toArray hthere (by rw [T1.info]; simp [T1.size]; omega) (all_oneCell_toArray hsL.one)]
    rfl
  unfold Oper.wp
  rw [hrun, Oper.upon_skip]
  have hrow' : (W.setCells p.b (i * sz + off) us).ownsRow 0 e' sz p.v n (setV vs (i * sz + off) us) := by
    refine ⟨by rw [setV_len]; exact hrow.1, Or.inr ⟨p.b, cap, (setV cur.toList (i * sz + off) us).toArray, hpv, hg0, g1, hnc, hcm, by simp [setV_len, hcs], ?_⟩⟩
    rw [List.toList_toArray, take_setV (by omega), htake]
  have hfp0 : Ent.fp p (.orow e' sz n get) = some p.b := by simp [Ent.fp, hpv, Value.ownBlock]
  have hwr := r1.turn (W' := W.setCells p.b (i * sz + off) us) (en := .orow e' sz n (upC get i off ls)) hk hp hfp0 hfp0 rfl ⟨⟨a0, cap0, q1, q2, q3⟩, hg2, hg3⟩ g2 g3 g4 g5 g6 (fun hst => by
    refine ⟨_, hrow', fun i' j hi' hj => ?_⟩
    by_cases hc : i' = i ∧ off ≤ j ∧ j < off + ls.length
    · obtain ⟨rfl, hc1, hc2⟩ := hc
      rw [upC_eq ⟨hc1, hc2⟩]
      obtain ⟨v, k1, k2⟩ := hsL.get (j := j - off) (by omega)
      refine ⟨v, ?_, Cell.shows_mono hst k2⟩
      have hlt : i' * sz + j < vs.length := by rw [hrow.1]; omega
      rw [setV_get, if_pos ⟨by omega, by omega, hlt⟩, show i' * sz + j - (i' * sz + off) = j - off by omega]
      exact k1
    · rw [upC_ne hc]
      obtain ⟨v, k1, k2⟩ := hshow i' j hi' hj
      refine ⟨v, ?_, Cell.shows_mono hst k2⟩
      rw [setV_get, if_neg ?_]
      · exact k1
      · rintro ⟨c1, c2, _⟩
        have hii : i' = i := by
          rcases Nat.lt_trichotomy i' i with h | h | h
          · have := Nat.mul_le_mul_right sz (show i' + 1 ≤ i from h)
            rw [Nat.add_mul, Nat.one_mul] at this
            omega
          · exact h
          · have := Nat.mul_le_mul_right sz (show i + 1 ≤ i' from h)
            rw [Nat.add_mul, Nat.one_mul] at this
            omega
        subst hii
        exact hc ⟨rfl, by omega, by omega⟩)
  refine hn [] _ _ _ (by rw [List.append_nil]; exact hwr) (by rw [List.append_nil]; exact put_is hs (rfl : SV.is ρ .und undef)) (by rw [put_defers]; exact hd) ?_ (by rw [List.length_set, frzs_len]; exact hl2) hrest
  intro j e hje
  by_cases hj : j = k
  · subst hj; exact Or.inl (maskedAt_spec hb5 hje)
  · by_cases hm : j ∈ ks
    · exact Or.inl (maskedAt_spec (hks j hm) hje)
    · rcases hl j e hje with h1 | h1
      · exact Or.inl h1
      · right
        rw [List.getElem?_set_ne (fun e => hj e.symm), frzs_get, if_neg hm]; exact h1

theorem zero_elem {z : List Value} {sz n i : Nat} (hz : z.length = sz) (h0 : 0 < sz) (hi : i < n) : (((List.replicate n z).flatten).drop (i * sz)).take sz = z := by
  subst hz
  apply List.ext_getElem?
  intro j
  rw [List.getElem?_take]
  split
  · rename_i hj
    rw [List.getElem?_drop, flat_get z h0 n (i * z.length + j) (by
      have := Nat.mul_le_mul_right z.length (show i + 1 ≤ n from hi)
      rw [Nat.add_mul] at this
      omega)]
    congr 1
    rw [Nat.add_comm, Nat.add_mul_mod_self_right, Nat.mod_eq_of_lt hj]
  · rename_i hj
    rw [List.getElem?_eq_none (by omega)]
theorem mkK_ok {P : Program} {N : Env} (hA : N.A = .std) (hE : N.E.Ok P) {w0 : World} {G : Gs} {ρ : List Pl} {st : St} {a : Act} {W : World} {o : Oper} {hS : List Ent} {Q : Exit → Act → World → Prop} {K : St → Prop} {next : Act → World → Prop}
    (r : Rel w0 G ρ st.h W) (hs : IsS ρ st.t a.tmps.toList) (hd : a.defers = []) (hl : Le hS st.h) (hl2 : hS.length ≤ st.h.length) (hn : Next w0 G ρ hS K next)
    {t : Nat} {x y : Operand} (ho : o.op = .makeSlice t x y) {sx sy : SV} (hx : sx.is ρ (a.eval x)) (hy : sy.is ρ (a.eval y)) (hK : mkK N t sx sy o.dst st K) : o.wp P a W next Q := by
  unfold mkK at hK
  split at hK
  · rename_i k1 l k2 c ti hti
    split at hK
    · rename_i e hkd
      split at hK
      · rename_i ei hei
        split at hK
        · rename_i hb
          simp only [Bool.not_eq_true'] at hb
          have hsz : 0 < ei.size := by
            rcases Nat.eq_zero_or_pos ei.size with h0 | h0
            · rw [h0] at hb; cases hb
            · exact h0
          obtain ⟨hpre, hK⟩ := (Need_iff _ _).1 hK
          rw [hA] at hpre
          obtain ⟨p1, rfl, p2, p3⟩ : 0 ≤ l ∧ l = c ∧ l ≤ 16777216 ∧ l * (ei.bytes : Int) ≤ 140737488355328 := hpre
          replace hK := hK (by rw [hA]; exact ⟨p1, rfl, p2, p3⟩)
          have hnat : N.A.natOf l = l.toNat := by rw [hA]; rfl
          rw [hnat] at hK
          obtain ⟨i0, d0, z0, T⟩ := TI.spec (hE.T t ti hti)
          obtain ⟨i1, d1, z1, T1⟩ := TI.spec (hE.T e ei hei)
          have ht : P.underlying t = some (.slice e) := by rw [T.und, kd_slice (T.kd.symm.trans hkd)]
          have hxv : a.eval x = .int k1 l := (Option.some.inj hx).symm
          have hyv : a.eval y = .int k2 l := (Option.some.inj hy).symm
          have hmk := run_make (P := P) W t e i1 z1 ht T1.info T1.zero k1 k2 l l p1 (Int.le_refl _) (by rw [T1.bytes, Int.mul_comm]; omega) (by omega)
          have hcells : madeCells z1.cells (l.toNat * i1.size) = ((List.replicate l.toNat z1.cells.toList).flatten).toArray := by
            rw [T1.size, ← T1.zsize]
            exact zero_row l.toNat z1.cells (by rw [T1.zsize]; omega)
          rw [hcells] at hmk
          have hrun : (execOp a.eval o).run P W = .ok (.value (.slice (some ⟨W.heap.size, 0, none⟩) l.toNat l.toNat)) (W.alloc (.cells ((List.replicate l.toNat z1.cells.toList).flatten).toArray e)) := by
            simp only [execOp, ho, hxv, hyv, Sem.run_bind, hmk, Result.andThen_ok, Sem.run_pure]
          have hz : IsL [] ei.zero z1.cells.toList := by rw [T1.zs]; exact isL_ofV T1.ones
          have hzl : z1.cells.toList.length = ei.size := by rw [Array.length_toList, T1.zsize]
          have hlen : ((List.replicate l.toNat z1.cells.toList).flatten).length = l.toNat * ei.size := by
            rw [List.length_flatten]
            simp [hzl]
          have hnew : (W.alloc (.cells ((List.replicate l.toNat z1.cells.toList).flatten).toArray e)).heap[W.heap.size]? = some (.cells ((List.replicate l.toNat z1.cells.toList).flatten).toArray e (0, 0)) := heap_alloc_new W _
          have hg : W.grownBy (W.alloc (.cells ((List.replicate l.toNat z1.cells.toList).flatten).toArray e)) none := ⟨rfl, rfl, rfl, by simp, fun k hk _ => Below.heap_alloc W _ k hk⟩
          have hal := r.bornE (en := .row e ei.size l.toNat fun _ => ei.zero) (q0 := ⟨W.heap.size, .slice (some ⟨W.heap.size, 0, none⟩) l.toNat l.toNat, 0⟩) ⟨_, ⟨fun i hi => by rw [zero_elem hzl hsz hi]; exact hz, rfl, fun g hg => by cases hg; rfl⟩, hlen, Or.inr ⟨W.heap.size, l.toNat, _, rfl, Nat.zero_le _, hnew, Nat.le_refl _, by unfold maxLen; omega, by simpa using hlen, List.take_of_length_le (Nat.le_of_eq hlen)⟩⟩ rfl
            (fun b hb => by have hb : some W.heap.size = some b := hb; cases hb; simp) hg (fun b hb => by have hb : some W.heap.size = some b := hb; cases hb; exact Nat.le_refl _)
          unfold Oper.wp
          rw [hrun, Oper.upon_value]
          refine hn [⟨W.heap.size, .slice (some ⟨W.heap.size, 0, none⟩) l.toNat l.toNat, 0⟩] _ _ _ hal (put_is (hs.app_ρ _) ?_) (by rw [put_defers]; exact hd) (hl.append _) (by simp; omega) hK
          show CV.den _ _ = _
          simp only [CV.den]
          rw [← r.len, List.getElem?_append_right (Nat.le_refl _)]
          simp [one]
        · exact hK.elim
      · exact hK.elim
    · exact hK.elim
  · exact hK.elim
/-- A record is put into a map. -/
theorem updQ_ok {P : Program} {N : Env} (hE : N.E.Ok P) {w0 : World} {G : Gs} {ρ : List Pl} {st : St} {a : Act} {W : World} {o : Oper} {hS : List Ent} {Q : Exit → Act → World → Prop} {K : St → Prop} {next : Act → World → Prop}
    (r : Rel w0 G ρ st.h W) (hs : IsS ρ st.t a.tmps.toList) (hd : a.defers = []) (hl : Le hS st.h) (hl2 : hS.length ≤ st.h.length) (hn : Next w0 G ρ hS K next)
    {t : TypeId} {m k v : Operand} (ho : o.op = .mapUpdate t m k v) {j : Nat} {cs : List CV} (hmj : ev st.t m = .c (.row j)) (hvn : ev st.t v = .agg cs) (hK : updQ N hS t j (ev st.t k) cs o.dst st K) : o.wp P a W next Q := by
  have he : ∀ x, (ev st.t x).is ρ (a.eval x) := ev_is hs
  unfold updQ at hK
  split at hK
  rotate_left
  · exact hK.elim
  rename_i mt' mt l hm hk
  split at hK
  rotate_left
  · exact hK.elim
  rename_i kv ns ai hb hkv hrc
  split at hK
  rotate_left
  · exact hK.elim
  rename_i T i ha
  split at hK
  rotate_left
  · exact hK.elim
  rename_i e sz n get hi
  split at hK
  rotate_left
  · exact hK.elim
  rename_i hc
  simp only [Bool.and_eq_true] at hb hc
  obtain ⟨hgs, hmask⟩ := hb
  have hgs := eq_of_beq hgs
  obtain ⟨⟨⟨⟨hT, he_⟩, hsz⟩, hma⟩, hmi⟩ := hc
  have hT := Nat.eq_of_beq_eq_true hT
  have he_ := Nat.eq_of_beq_eq_true he_
  have hsz := Nat.eq_of_beq_eq_true hsz
  subst hT he_ hsz
  obtain ⟨hku, hsh⟩ := keyC_ok hkv (he k)
  have hm' := he m
  rw [hmj] at hm'
  obtain ⟨p, hp, hpv⟩ := den_row hm'
  have hv' := he v
  rw [hvn] at hv'
  obtain ⟨us, hus, huv⟩ := hv'
  obtain ⟨pa, hpa, hus2⟩ := recC_ok [] hrc hus
  obtain ⟨kt, et, ht, hz, M⟩ := mapTyQ_ok hE hm
  rw [hgs] at M
  obtain ⟨h2, es, ck, h3, h4, h5⟩ := r.ok j _ p hk hp
  obtain ⟨pi_, hpi, hoki⟩ := r.place hi
  obtain ⟨vs, hvs, hheap⟩ := r.ok ai _ pa ha hpa
  have hvs1 : vs = [pi_.v] := by
    cases vs with
    | nil => simp [IsL] at hvs
    | cons v vs =>
      simp only [IsL, List.map_cons, List.map_nil, List.cons.injEq] at hvs
      have h6 : vs = [] := by simpa using hvs.2.symm
      obtain ⟨p', hp', hv6⟩ := den_row (ρ := ρ) (k := i) hvs.1
      rw [hpi] at hp'
      cases hp'
      rw [h6, hv6]
  subst hvs1
  have hja : ¬ j = ai := fun e => by subst e; rw [hk] at ha; cases ha
  have hji : ¬ j = i := fun e => by subst e; rw [hk] at hi; cases hi
  have hai : ¬ ai = i := fun e => by subst e; rw [ha] at hi; cases hi
  have hi1 : (st.h.set ai .dead)[i]? = some (.row mt.e mt.sz n get) := by rw [List.getElem?_set_ne hai]; exact hi
  have hj2 : ((st.h.set ai .dead).set i .dead)[j]? = some (.mq mt l) := by rw [List.getElem?_set_ne (fun e => hji e.symm), List.getElem?_set_ne (fun e => hja e.symm)]; exact hk
  have r1 : Rel w0 G ρ (st.h.set ai .dead) W := r.setS (en := .dead) ha hpa (fun b hb => by cases hb) trivial fun _ => trivial
  have r2 : Rel w0 G ρ ((st.h.set ai .dead).set i .dead) W := r1.setS (en := .dead) hi1 hpi (fun b hb => by cases hb) trivial fun _ => trivial
  have hsub : ∀ jj b, fp ρ ((st.h.set ai .dead).set i .dead) jj = some b → ¬ jj = ai ∧ ¬ jj = i ∧ fp ρ st.h jj = some b := fun jj b hf => by
    obtain ⟨x, q, hx, hq, hxb⟩ := fp_some hf
    by_cases h7 : jj = i
    · subst h7
      rw [List.getElem?_set_self (by rw [List.length_set]; exact (List.getElem?_eq_some_iff.1 hi).1)] at hx
      cases hx; cases hxb
    · rw [List.getElem?_set_ne (fun e => h7 e.symm)] at hx
      by_cases h8 : jj = ai
      · subst h8
        rw [List.getElem?_set_self (List.getElem?_eq_some_iff.1 ha).1] at hx
        cases hx; cases hxb
      · rw [List.getElem?_set_ne (fun e => h8 e.symm)] at hx
        exact ⟨h8, h7, by rw [fp_mk hx hq]; exact hxb⟩
  have hun : ∀ b, (fp ρ st.h ai = some b ∨ fp ρ st.h i = some b) → Dom w0 G ρ ((st.h.set ai .dead).set i .dead) W false b := fun b hb => by
    refine Dom.weak (fr := true) ?_
    have hown : b < W.heap.size ∧ (b ∈ G ∨ w0.heap.size ≤ b) := by
      rcases hb with hb | hb
      · exact r.own ai b hb
      · exact r.own i b hb
    refine ⟨hown.2, hown.1, fun jj hjj => ?_⟩
    obtain ⟨k1, k2, k3⟩ := hsub jj b hjj
    rcases hb with hb | hb
    · exact k1 (r.dis jj ai b k3 hb)
    · exact k2 (r.dis jj i b k3 hb)
  obtain ⟨es2, ck2, h3', hrec⟩ := r2.dat j _ p hj2 hp
  rw [h3] at h3'
  cases h3'
  obtain ⟨es', ck', hrun1, hkeys, hblt, hset⟩ := mq_set ht M h3 h4 h5 hsh (.agg us.toArray) ⟨numL ns, n, get⟩
  obtain ⟨⟨a0, cap, g1, g2, g3⟩, g4⟩ := Ent.view_ok (e := .row mt.e mt.sz n get) rfl hoki
  have hshow : MRec.shows W (Dom w0 G ρ ((st.h.set ai .dead).set i .dead) W) mt ⟨numL ns, n, get⟩ (.agg us.toArray) := by
    refine ⟨pa.b, pi_.v, by rw [hus2]; rfl, hun _ (Or.inl (by rw [fp_mk ha hpa]; rfl)), hheap, a0, cap, g1, g2, fun h0 => ⟨pi_.b, pi_.o, g3 h0, hun _ (Or.inr ?_), g4⟩⟩
    rw [fp_mk hi hpi]
    show pi_.v.ownBlock = some pi_.b
    rw [g1, g3 h0]
    rfl
  have htn := r2.turn (W' := { W with heap := W.heap.setIfInBounds p.b (.map es' ck') }) (e0 := .mq mt l) (en := .mq mt (mqSet kv ⟨numL ns, n, get⟩ l)) hj2 hp (b0 := p.b) rfl rfl rfl ⟨h2, es', ck', by simp [hblt], hkeys, mqSet_sh hsh h5⟩
    (fun b hb => by simp [Ne.symm hb]) (by simp) rfl rfl rfl fun hst => ⟨es', ck', by simp [hblt], recsShow_mono (fun b hb => hst false b hb) (hset _ _ _ hrec hshow)⟩
  have hrun : (execOp a.eval o).run P W = .ok .skip { W with heap := W.heap.setIfInBounds p.b (.map es' ck') } := by
    simp only [execOp, ho, hku, huv, hpv, h2, Sem.run_bind, hrun1, Result.andThen_ok, Sem.run_pure]
  unfold Oper.wp
  rw [hrun, Oper.upon_skip]
  refine hn [] _ _ _ (by rw [List.append_nil]; exact htn) (by rw [List.append_nil]; exact put_is hs (rfl : SV.is ρ .und undef)) (by rw [put_defers]; exact hd) ?_ (by simp only [List.length_set]; exact hl2) hK
  intro ii ee hee
  by_cases q1 : ii = j
  · subst q1; exact Or.inl (maskedAt_spec hmask hee)
  by_cases q2 : ii = i
  · subst q2; exact Or.inl (maskedAt_spec hmi hee)
  by_cases q3 : ii = ai
  · subst q3; exact Or.inl (maskedAt_spec hma hee)
  rcases hl ii ee hee with h1 | h1
  · exact Or.inl h1
  · right
    rw [List.getElem?_set_ne (fun e => q1 e.symm), List.getElem?_set_ne (fun e => q2 e.symm), List.getElem?_set_ne (fun e => q3 e.symm)]
    exact h1
/-- A record is looked up. -/
theorem lookQ_ok {P : Program} {N : Env} (hE : N.E.Ok P) {w0 : World} {G : Gs} {ρ : List Pl} {st : St} {a : Act} {W : World} {o : Oper} {hS : List Ent} {Q : Exit → Act → World → Prop} {K : St → Prop} {next : Act → World → Prop}
    (r : Rel w0 G ρ st.h W) (hs : IsS ρ st.t a.tmps.toList) (hd : a.defers = []) (hl : Le hS st.h) (hl2 : hS.length ≤ st.h.length) (hn : Next w0 G ρ hS K next)
    {t : TypeId} {m k : Operand} {cm : Bool} (ho : o.op = .lookup t m k cm) {mt : MTy} {zk : List IntKind} {kv : Value} {l : List (Value × MRec)} (hq : lookQ N.E st.h t (ev st.t m) (ev st.t k) = some (mt, zk, kv, l))
    (hK : Ife (mqHas kv l)
      (K ⟨put st.t o.dst (resQ cm (numsC mt.ks (mqNum kv l) 0 ++ [.eptr st.h.length 0 1 0]) .tt), st.h ++ [.data false mt.T 1 1 fun _ _ => .es false mt.e mt.sz (mqN kv l) (mqRow kv l)]⟩)
      (K ⟨put st.t o.dst (resQ cm (numsC zk (fun _ => 0) 0 ++ [.val (.pointer none)]) .ff), st.h⟩)) : o.wp P a W next Q := by
  have he : ∀ x, (ev st.t x).is ρ (a.eval x) := ev_is hs
  obtain ⟨j, mt', hmj, hk, hmt, hgs, hkv, hzk⟩ := lookQ_spec hq
  obtain ⟨hku, hsh⟩ := keyC_ok hkv (he k)
  have hm' := he m
  rw [hmj] at hm'
  obtain ⟨p, hp, hpv⟩ := den_row hm'
  obtain ⟨kt, et, ht, hz, M⟩ := mapTyQ_ok hE hmt
  rw [hgs] at M
  obtain ⟨h2, es, ck, h3, h4, h5⟩ := r.ok j _ p hk hp
  obtain ⟨es', ck', h3', hrec⟩ := r.dat j _ p hk hp
  rw [h3] at h3'
  cases h3'
  obtain ⟨g1, g2⟩ := mq_get ht hz M h3 h4 h5 hsh cm
  have hexec : ∀ x, (Instr.lookup t (.map (some p.b)) kv cm).run P W = .ok x W → (execOp a.eval o).run P W = .ok (.value x) W := fun x hx => by
    simp only [execOp, ho, hku, hpv, h2, Sem.run_bind, hx, Result.andThen_ok]
    rfl
  cases hh : mqHas kv l with
  | true =>
    obtain ⟨rv, hrun, hshow⟩ := g1 hh
    obtain ⟨b, sv, e1, hD, hb, hes⟩ := hshow _ _ mt hrec
    have hnew : Rel w0 G (ρ ++ [⟨b, .slice (some ⟨b, 0, none⟩) 1 1, 0⟩]) (st.h ++ [.data false mt.T 1 1 fun _ _ => .es false mt.e mt.sz (mqN kv l) (mqRow kv l)]) W := by
      refine r.addS rfl ⟨_, 1, rfl, Nat.le_refl _, fun _ => rfl⟩ fun hst => ?_
      refine ⟨some ⟨b, 0, none⟩, 1, rfl, Nat.le_refl _, fun _ => ⟨b, 0, rfl, hst false b hD, fun i jj hi hjj => ?_⟩⟩
      obtain rfl : i = 0 := by omega
      obtain rfl : jj = 0 := by omega
      refine ⟨sv, ?_, Cell.shows_mono (fun fr b hb => ⟨hst fr b hb, rfl⟩) hes⟩
      unfold World.cell?
      rw [hb]
      rfl
    unfold Oper.wp
    rw [hexec _ hrun, Oper.upon_value]
    refine hn [_] _ _ _ hnew (put_is (hs.app_ρ _) ?_) (by rw [put_defers]; exact hd) (hl.append _) (by simp; omega) (hK.t hh)
    have hcs : IsL (ρ ++ [⟨b, .slice (some ⟨b, 0, none⟩) 1 1, 0⟩]) (numsC mt.ks (mqNum kv l) 0 ++ [.eptr st.h.length 0 1 0]) (numsV mt.ks (mqNum kv l) 0 ++ [.pointer (some ⟨b, 0, none⟩)]) := by
      refine (numsC_ok _ _ _).app (IsL.cons ?_ (IsL.nil _))
      simp only [CV.den]
      rw [← r.len, List.getElem?_append_right (Nat.le_refl _)]
      simp
    cases cm with
    | true => exact ⟨[rv, .bool true], ⟨rv, _, rfl, ⟨_, hcs, e1⟩, .bool true, _, rfl, rfl, rfl⟩, rfl⟩
    | false => exact ⟨_, hcs, e1⟩
  | false =>
    have hrun := g2 hh
    have hcs : IsL ρ (numsC zk (fun _ => 0) 0 ++ [.val (.pointer none)]) (numsV mt'.ks (fun _ => 0) 0 ++ [.pointer none]) := by
      rw [hzk]
      exact (numsC_ok _ _ _).app (IsL.cons rfl (IsL.nil _))
    have hsv : SV.is ρ (resQ cm (numsC zk (fun _ => 0) 0 ++ [.val (.pointer none)]) .ff) (if cm = true then .tuple #[.agg (numsV mt'.ks (fun _ => 0) 0 ++ [Value.pointer none]).toArray, .bool false] else .agg (numsV mt'.ks (fun _ => 0) 0 ++ [Value.pointer none]).toArray) := by
      cases cm with
      | true => exact ⟨[_, .bool false], ⟨_, _, rfl, ⟨_, hcs, rfl⟩, .bool false, _, rfl, rfl, rfl⟩, rfl⟩
      | false => exact ⟨_, hcs, rfl⟩
    unfold Oper.wp
    rw [hexec _ hrun, Oper.upon_value]
    exact hn [] ⟨put st.t o.dst (resQ cm (numsC zk (fun _ => 0) 0 ++ [.val (.pointer none)]) .ff), st.h⟩ _ _ (by rw [List.append_nil]; exact r) (by rw [List.append_nil]; exact put_is hs hsv) (by rw [put_defers]; exact hd) hl hl2 (hK.f hh)
theorem stepRun_ok {P : Program} {N : Env} (hA : N.A = .std) (hE : N.E.Ok P) (hC : CtsOk P N.C) {w0 : World} {G : Gs} {ρ : List Pl} {st : St} {a : Act} {W : World} {o : Oper} {hS : List Ent} {Q : Exit → Act → World → Prop} {K : St → Prop} {next : Act → World → Prop}
    (r : Rel w0 G ρ st.h W) (hs : IsS ρ st.t a.tmps.toList) (hd : a.defers = []) (hl : Le hS st.h) (hl2 : hS.length ≤ st.h.length) (hn : Next w0 G ρ hS K next)
    (hK : stepRun N hS o st K) : o.wp P a W next Q := by
  have he : ∀ x, (ev st.t x).is ρ (a.eval x) := ev_is hs
  have hd0 := hd
  unfold stepRun at hK
  split at hK
  · rename_i t ho
    split at hK
    · rename_i i hi
      obtain ⟨i1, d1, z1, T1⟩ := TI.spec (hE.T t i hi)
      have hrun : (execOp a.eval o).run P W = .ok (.value (.pointer (some ⟨W.heap.size, 0, none⟩))) (W.alloc (.cells z1.cells t)) := by
        simp only [execOp, ho, Instr.alloc, zeroValue, typeInfo, T1.info, T1.zero, newVar, newRow, newObj, Sem.run_bind, run_program, Sem.run_pure, Result.andThen_ok]
        rfl
      have hz : IsL ρ i.zero z1.cells.toList := by rw [T1.zs]; exact isL_ofV T1.ones
      have hal := r.alloc t hz
      unfold Oper.wp
      rw [hrun, Oper.upon_value]
      refine hn [⟨W.heap.size, undef, 0⟩] _ _ _ hal (put_is (hs.app_ρ _) ?_) (by rw [put_defers]; exact hd) (hl.append _) (by simp; omega) hK
      show CV.den _ _ = _
      simp only [CV.den]
      rw [← r.len, List.getElem?_append_right (Nat.le_refl _)]
      simp
    · exact hK.elim
  · rename_i t x ho
    split at hK
    · rename_i cs hcs
      obtain ⟨us, hu1, hu2⟩ := svCells_ok (he x) hcs
      have hrun : (execOp a.eval o).run P W = .ok (.value (.pointer (some ⟨W.heap.size, 0, none⟩))) (W.alloc (.cells us.toArray t)) := by
        simp only [execOp, ho, Instr.box, newVar, newRow, newObj, hu2, Sem.run_bind, Sem.run_pure, Result.andThen_ok]
        rfl
      have hal := r.alloc t hu1
      unfold Oper.wp
      rw [hrun, Oper.upon_value]
      refine hn [⟨W.heap.size, undef, 0⟩] _ _ _ hal (put_is (hs.app_ρ _) ?_) (by rw [put_defers]; exact hd) (hl.append _) (by simp; omega) hK
      show CV.den _ _ = _
      simp only [CV.den]
      rw [← r.len, List.getElem?_append_right (Nat.le_refl _)]
      simp
    · exact hK.elim
  · rename_i t x ho
    split at hK
    · exact loadN_ok hA hE r hs hd hl hl2 hn ho hK
    · exact pevK_ok hA hE r hs hd hl hl2 hn (by rw [ho]; exact hK)
  · rename_i t x y ho
    split at hK
    · exact storeN_ok hA hE r hs hd hl hl2 hn ho hK
    · exact storeK_ok hA hE r hs hd hl hl2 hn ho hK
  · rename_i t len parts ho
    split at hK
    · rename_i ti hti
      split at hK
      · rename_i e hkd
        split at hK
        · rename_i ei hei
          split at hK
          · rename_i hl0
            have hl0 : len = 0 := by simpa using hl0
            subst hl0
            obtain ⟨i0, d0, z0, T⟩ := TI.spec (hE.T t ti hti)
            obtain ⟨i1, d1, z1, T1⟩ := TI.spec (hE.T e ei hei)
            have hund : P.underlying t = some (.slice e) := by rw [T.und, kd_slice (T.kd.symm.trans hkd)]
            have hrun : parts.toList = [] → (execOp a.eval o).run P W = .ok (.value (.slice (some ⟨W.heap.size, 0, none⟩) 0 0)) (W.alloc (.cells #[] e)) := fun hp => by
              have hp' : parts = #[] := by cases parts; simp at hp; rw [hp]
              subst hp'
              have e3 : Array.range 0 = #[] := rfl
              simp only [execOp, ho, Instr.buildSlice, Sem.run_bind, run_underlying hund, Result.andThen_ok, run_sizeOf' T1.info, Nat.zero_mul, if_neg (show ¬ (0 > 2 ^ 24) by omega), if_true, Sem.run_pure, Array.map_empty, e3]
              simp only [Instr.fill, newRow, newObj, Sem.run_bind, Sem.run_pure, Result.andThen_ok]
              rfl
            have how := World.ownsRow_made (base := 0) (size := ei.size) (e := e) W #[] 0 (Nat.zero_le _) (Nat.zero_le _) (by simp)
            have hg : W.grownBy (W.alloc (.cells #[] e)) none := ⟨rfl, rfl, rfl, by simp, fun k hk _ => Below.heap_alloc W _ k hk⟩
            have hfin : ∀ en : Ent, en.ok (ρ ++ [⟨W.heap.size, .slice (some ⟨W.heap.size, 0, none⟩) 0 0, 0⟩]) ⟨W.heap.size, .slice (some ⟨W.heap.size, 0, none⟩) 0 0, 0⟩ (W.alloc (.cells #[] e)) → (∀ b, en.fp ⟨W.heap.size, .slice (some ⟨W.heap.size, 0, none⟩) 0 0, 0⟩ = some b → b = W.heap.size) →
                (∀ D, en.dat (W.alloc (.cells #[] e)) D ⟨W.heap.size, .slice (some ⟨W.heap.size, 0, none⟩) 0 0, 0⟩) → parts.toList = [] → K ⟨Vx.put st.t o.dst (.c (.row st.h.length)), st.h ++ [en]⟩ → o.wp P a W next Q := fun en h1 h2 h3 hp hk => by
              have hgr := r.bornE (en := en) (q0 := ⟨W.heap.size, .slice (some ⟨W.heap.size, 0, none⟩) 0 0, 0⟩) h1 rfl (fun b hb => by rw [h2 b hb]; simp) hg (fun b hb => by rw [h2 b hb]; exact Nat.le_refl _) (fun _ => h3 _)
              unfold Oper.wp
              rw [hrun hp, Oper.upon_value]
              refine hn [_] _ _ _ hgr (put_is (hs.app_ρ _) ?_) (by rw [put_defers]; exact hd0) (hl.append _) (by simp; omega) hk
              show CV.den _ _ = _
              simp only [CV.den]
              rw [← r.len, List.getElem?_append_right (Nat.le_refl _)]
              simp [one]
            split at hK
            · rename_i hp hsl
              exact hfin (.row e ei.size 0 fun _ => []) ⟨[], ⟨fun i hi => absurd hi (by simp), rfl, fun g hg => by simpa [Value.ownBlock] using hg.symm⟩, how⟩ (fun b hb => by simpa [Ent.fp, Value.ownBlock] using hb.symm) (fun _ => trivial) hp hK
            · rename_i hp hsl
              exact hfin (.orow e ei.size 0 fun _ _ => .pl .tt) (by have := orow_ok (ρ := ρ ++ [⟨W.heap.size, .slice (some ⟨W.heap.size, 0, none⟩) 0 0, 0⟩]) (get := fun _ _ => .pl .tt) how; exact this) (fun b hb => by simpa [Ent.fp, Value.ownBlock] using hb.symm) (fun _ => ⟨[], how, fun i j hi _ => absurd hi (by simp)⟩) hp hK
            · exact hK.elim
          split at hK
          · rename_i cs hcs
            split at hK
            · rename_i hb
              simp only [Bool.and_eq_true, Nat.ble_eq, Bool.not_eq_true'] at hb
              obtain ⟨⟨hb1, hb2⟩, hb3⟩ := hb
              have hsz0 : ¬ ei.size = 0 := fun e => by rw [e] at hb2; cases hb2
              have hlen0 : ¬ len = 0 := fun e => by rw [e] at hb3; cases hb3
              obtain ⟨i0, d0, z0, T⟩ := TI.spec (hE.T t ti hti)
              obtain ⟨i1, d1, z1, T1⟩ := TI.spec (hE.T e ei hei)
              have hd := kd_slice (T.kd.symm.trans hkd)
              have hz : IsL ρ ei.zero z1.cells.toList := by rw [T1.zs]; exact isL_ofV T1.ones
              have hP : ∀ ps : List (Nat × Operand), IsP ρ (ps.map fun p => (p.1, ev st.t p.2)) (ps.map fun p => (p.1, a.eval p.2)) := by
                intro ps
                induction ps with
                | nil => exact rfl
                | cons p ps ih => exact ⟨_, _, rfl, he p.2, ih⟩
              obtain ⟨vs', hv1, hv2⟩ := fill_ok (hP parts.toList) (isL_zeros hz len) hcs
              have hund : P.underlying t = some (.slice e) := by rw [T.und, hd]
              have hcells : (Array.range (len * i1.size)).map (fun i => z1.cells[i % z1.cells.size]!) = ((List.replicate len z1.cells.toList).flatten).toArray := by
                rw [T1.size, ← T1.zsize]
                exact zero_row len z1.cells (by rw [T1.zsize]; omega)
              have hne : ¬ (len * ei.size = 0) := Nat.mul_ne_zero hlen0 hsz0
              have hrun : (execOp a.eval o).run P W = .ok (.value (.slice (some ⟨W.heap.size, 0, none⟩) len len)) (W.alloc (.cells vs'.toArray e)) := by
                have e2 : (parts.map fun (i, x) => (i, a.eval x)).toList = parts.toList.map fun p => (p.1, a.eval p.2) := by simp
                simp only [execOp, ho, Instr.buildSlice, Sem.run_bind, run_underlying hund, Result.andThen_ok, run_sizeOf' T1.info, T1.size]
                rw [if_neg (by omega), if_neg hne]
                simp only [zeroValue, typeInfo, T1.info, T1.zero, Sem.run_bind, run_program, Sem.run_pure, Result.andThen_ok]
                rw [T1.size] at hcells
                rw [hcells, e2, hv2]
                simp only [newRow, newObj, Sem.run_bind, Sem.run_pure, Result.andThen_ok]
                rfl
              have hal := r.alloc e hv1
              unfold Oper.wp
              rw [hrun, Oper.upon_value]
              refine hn [⟨W.heap.size, undef, 0⟩] _ _ _ hal (put_is (hs.app_ρ _) ?_) (by rw [put_defers]; exact hd0) (hl.append _) (by simp; omega) hK
              show CV.den _ _ = _
              simp only [CV.den]
              rw [← r.len, List.getElem?_append_right (Nat.le_refl _)]
              simp
            · exact hK.elim
          · exact hK.elim
        · exact hK.elim
      · exact hK.elim
    · exact hK.elim
  · rename_i t x y ho
    split at hK
    · exact mkK_ok hA hE r hs hd hl hl2 hn ho (he x) (he y) hK
    split at hK
    · rename_i k1 l0 k2 c0 hx hy
      split at hK
      · rename_i l c ti hti
        split at hK
        · rename_i e hkd
          split at hK
          · rename_i ei hei
            split at hK
            · rename_i hb
              simp only [Bool.and_eq_true, Nat.ble_eq, Nat.beq_eq, Bool.not_eq_true'] at hb
              obtain ⟨⟨⟨⟨hb1, hb2⟩, hb3⟩, hb4⟩, hb5⟩ := hb
              subst hb1
              obtain ⟨i0, d0, z0, T⟩ := TI.spec (hE.T t ti hti)
              obtain ⟨i1, d1, z1, T1⟩ := TI.spec (hE.T e ei hei)
              have ht : P.underlying t = some (.slice e) := by rw [T.und, kd_slice (T.kd.symm.trans hkd)]
              have hsz : 0 < ei.size := by
                rcases Nat.eq_zero_or_pos ei.size with h0 | h0
                · rw [h0] at hb4; cases hb4
                · exact h0
              have hx' := he x
              rw [hx] at hx'
              have hy' := he y
              rw [hy] at hy'
              have hxv : a.eval x = .int k1 (Int.ofNat l) := (Option.some.inj hx').symm
              have hyv : a.eval y = .int k2 (Int.ofNat l) := (Option.some.inj hy').symm
              have hmul : ((i1.bytes : Nat) : Int) * (Int.ofNat l) ≤ 281474976710656 := by
                rw [T1.bytes]
                have : (ei.bytes : Int) * (l : Int) = ((ei.bytes * l : Nat) : Int) := by simp
                show (ei.bytes : Int) * (l : Int) ≤ _
                omega
              have hl1 : l ≤ 16777216 := by
                have := Nat.le_mul_of_pos_right l hsz
                omega
              have hmk := run_make (P := P) W t e i1 z1 ht T1.info T1.zero k1 k2 (Int.ofNat l) (Int.ofNat l) (Int.natCast_nonneg l) (Int.le_refl _) hmul (by show (l : Int) ≤ _; omega)
              have hcells : madeCells z1.cells ((Int.ofNat l).toNat * i1.size) = ((List.replicate l z1.cells.toList).flatten).toArray := by
                show madeCells z1.cells (l * i1.size) = _
                rw [T1.size, ← T1.zsize]
                exact zero_row l z1.cells (by rw [T1.zsize]; omega)
              rw [hcells] at hmk
              have hrun : (execOp a.eval o).run P W = .ok (.value (.slice (some ⟨W.heap.size, 0, none⟩) l l)) (W.alloc (.cells ((List.replicate l z1.cells.toList).flatten).toArray e)) := by
                simp only [execOp, ho, hxv, hyv, Sem.run_bind, hmk, Result.andThen_ok, Sem.run_pure]
                rfl
              have hz : IsL ρ ei.zero z1.cells.toList := by rw [T1.zs]; exact isL_ofV T1.ones
              have hal := r.alloc e (isL_zeros hz l)
              unfold Oper.wp
              rw [hrun, Oper.upon_value]
              refine hn [⟨W.heap.size, undef, 0⟩] _ _ _ hal (put_is (hs.app_ρ _) ?_) (by rw [put_defers]; exact hd0) (hl.append _) (by simp; omega) hK
              show CV.den _ _ = _
              simp only [CV.den]
              rw [← r.len, List.getElem?_append_right (Nat.le_refl _)]
              simp
            · exact hK.elim
          · exact hK.elim
        · exact hK.elim
      · exact hK.elim
    · exact hK.elim
  · rename_i t ho
    split at hK
    · rename_i gs hm
      obtain ⟨kt, et, ht, hz, M⟩ := mapTy_ok hE hm
      have hrun : (execOp a.eval o).run P W = .ok (.value (.map (some W.heap.size))) (W.alloc (.map #[] 0)) := by
        simp only [execOp, ho, Option.map_none]
        rfl
      have hnew : (W.alloc (.map #[] 0)).heap[W.heap.size]? = some (.map #[] 0) := heap_alloc_new W _
      have hg : W.grownBy (W.alloc (.map #[] 0)) none := ⟨rfl, rfl, rfl, by simp, fun k hk _ => Below.heap_alloc W _ k hk⟩
      have hgr := r.bornE (en := .mp gs []) (q0 := ⟨W.heap.size, .map (some W.heap.size), 0⟩) ⟨rfl, #[], 0, hnew, rfl, fun q hq => by cases hq⟩ rfl
        (fun b hb => by have hb : some W.heap.size = some b := hb; cases hb; simp) hg (fun b hb => by have hb : some W.heap.size = some b := hb; cases hb; exact Nat.le_refl _)
      unfold Oper.wp
      rw [hrun, Oper.upon_value]
      refine hn [⟨W.heap.size, .map (some W.heap.size), 0⟩] _ _ _ hgr (put_is (hs.app_ρ _) ?_) (by rw [put_defers]; exact hd0) (hl.append _) (by simp; omega) hK
      show CV.den _ _ = _
      simp only [CV.den]
      rw [← r.len, List.getElem?_append_right (Nat.le_refl _)]
      simp [one]
    · split at hK
      · rename_i mt hm
        have hrun : (execOp a.eval o).run P W = .ok (.value (.map (some W.heap.size))) (W.alloc (.map #[] 0)) := by
          simp only [execOp, ho, Option.map_none]
          rfl
        have hnew : (W.alloc (.map #[] 0)).heap[W.heap.size]? = some (.map #[] 0) := heap_alloc_new W _
        have hg : W.grownBy (W.alloc (.map #[] 0)) none := ⟨rfl, rfl, rfl, by simp, fun k hk _ => Below.heap_alloc W _ k hk⟩
        have hgr := r.bornE (en := .mq mt []) (q0 := ⟨W.heap.size, .map (some W.heap.size), 0⟩) ⟨rfl, #[], 0, hnew, rfl, fun q hq => by cases hq⟩ rfl
          (fun b hb => by have hb : some W.heap.size = some b := hb; cases hb; simp) hg (fun b hb => by have hb : some W.heap.size = some b := hb; cases hb; exact Nat.le_refl _) fun _ => ⟨#[], 0, hnew, trivial⟩
        unfold Oper.wp
        rw [hrun, Oper.upon_value]
        refine hn [⟨W.heap.size, .map (some W.heap.size), 0⟩] _ _ _ hgr (put_is (hs.app_ρ _) ?_) (by rw [put_defers]; exact hd0) (hl.append _) (by simp; omega) hK
        show CV.den _ _ = _
        simp only [CV.den]
        rw [← r.len, List.getElem?_append_right (Nat.le_refl _)]
        simp [one]
      · exact hK.elim
  · rename_i t m k v ho
    split at hK
    · rename_i j n hmj hvn
      split at hK
      · rename_i gs gs' l hm hk
        split at hK
        · rename_i kv hb hkv
          simp only [Bool.and_eq_true] at hb
          have hg := eq_of_beq hb.1
          subst hg
          obtain ⟨hku, hsh⟩ := keyC_ok hkv (he k)
          have hm' := he m
          rw [hmj] at hm'
          have hv' := he v
          rw [hvn] at hv'
          have hvv : a.eval v = .int .i64 n := (Option.some.inj hv').symm
          obtain ⟨p, hp, hpv⟩ := den_row hm'
          obtain ⟨kt, et, ht, hz, M⟩ := mapTy_ok hE hm
          obtain ⟨h2, h3⟩ := r.ok j _ p hk hp
          obtain ⟨es', ck', h4, h5, h6⟩ := mp_set ht M h3 hsh n
          have hrun : (execOp a.eval o).run P W = .ok .skip { W with heap := W.heap.setIfInBounds p.b (.map es' ck') } := by
            simp only [execOp, ho, hku, hvv, hpv, h2, Sem.run_bind, h4, Result.andThen_ok, Sem.run_pure]
          have htn := r.turn (W' := { W with heap := W.heap.setIfInBounds p.b (.map es' ck') }) (e0 := .mp gs l) (en := .mp gs (mpSet kv n l)) hk hp (b0 := p.b) rfl rfl rfl ⟨h2, h5⟩
            (fun b hb => by simp [Ne.symm hb]) (by simp) rfl rfl rfl
          unfold Oper.wp
          rw [hrun, Oper.upon_skip]
          refine hn [] _ _ _ (by rw [List.append_nil]; exact htn) (by rw [List.append_nil]; exact put_is hs (rfl : SV.is ρ .und undef)) (by rw [put_defers]; exact hd0) ?_ (by rw [List.length_set]; exact hl2) hK
          intro i e he
          by_cases hj : i = j
          · subst hj; exact Or.inl (maskedAt_spec hb.2 he)
          · rcases hl i e he with h1 | h1
            · exact Or.inl h1
            · right
              rw [List.getElem?_set_ne (fun e => hj e.symm)]; exact h1
        · exact hK.elim
      · exact hK.elim
    · rename_i j cs hmj hvn
      exact updQ_ok hE r hs hd hl hl2 hn ho hmj hvn hK
    · exact hK.elim
  · rename_i t m k cm ho
    split at hK
    · rename_i mt zk kv l hq
      exact lookQ_ok hE r hs hd hl hl2 hn ho hq hK
    · exact pevK_ok hA hE r hs hd hl hl2 hn (by rw [ho]; exact hK)
  · rename_i s d x ho
    split at hK
    · rename_i l hx
      split at hK
      · rename_i si di hsi hdi
        split at hK
        · rename_i e hkd
          split at hK
          · rename_i hu8
            obtain ⟨i1, d1, z1, T1⟩ := TI.spec (hE.T s si hsi)
            obtain ⟨i2, d2, z2, T2⟩ := TI.spec (hE.T d di hdi)
            have hundD : P.underlying d = some (.slice e) := by rw [T2.und, kd_slice (T2.kd.symm.trans hkd)]
            have hund8 : P.underlying e = some (.int .u8) := by
              unfold isU8 at hu8
              split at hu8
              · rename_i ei hei
                split at hu8
                · rename_i hk8
                  obtain ⟨i3, d3, z3, T3⟩ := TI.spec (hE.T e ei hei)
                  rw [T3.und, kd_int (T3.kd.symm.trans hk8)]
                · cases hu8
              · cases hu8
            have hu : a.eval x = .string ⟨l.toArray⟩ := by
              have := he x
              rw [hx] at this
              exact (Option.some.inj this).symm
            rw [hA] at hK
            have hpre : l.length + 0 ≤ 140737488355328 := hK.pre
            have hrest := hK.rest hK.pre
            have hsz : (⟨l.toArray⟩ : ByteArray).size = l.length := rfl
            have hml : maxLen = 9223372036854775807 := rfl
            have hge := grownCap_ge W l.length 0 e
            have hle := grownCap_le_maxLen W l.length 0 e (by rw [hml]; omega)
            have hrun := Lib.run_convert_string_bytes (P := P) W s d e ⟨l.toArray⟩ T1.und hundD hund8
            have hcs : (Lib.bytesCells W e ⟨l.toArray⟩).size = grownCap W l.length 0 e := by
              simp only [Lib.bytesCells, Array.size_append, Array.size_map, Array.size_replicate, hsz]
              show l.length + _ = _
              omega
            have hb : BytesAt (Lib.bytesWorld W e ⟨l.toArray⟩) e (.slice (some ⟨W.heap.size, 0, none⟩) l.length (grownCap W l.length 0 e)) l := by
              refine Or.inr ⟨W.heap.size, _, _, _, rfl, Lib.bytesWorld_at_new W e _, Or.inr (by rw [hcs]; exact Nat.le_refl _), hge, hle, hcs, ?_⟩
              simp only [Lib.bytesCells, Array.toList_append, Array.toList_map]
              exact List.take_left' (by simp)
            have hg : W.grownBy (Lib.bytesWorld W e ⟨l.toArray⟩) none := by
              refine ⟨?_, ?_, ?_, by rw [Lib.bytesWorld_size]; omega, fun k hk _ => Lib.bytesWorld_at_old W e _ k hk⟩ <;>
                simp [Lib.bytesWorld, World.freeze, World.alloc, World.drew, -World.alloc_eq, -World.drew_eq]
            have hgr := r.born (e := e) hb hg (fun b hb => by simp [Value.ownBlock] at hb; omega)
            unfold Oper.wp
            rw [show (execOp a.eval o).run P W = .ok (.value (.slice (some ⟨W.heap.size, 0, none⟩) l.length (grownCap W l.length 0 e))) (Lib.bytesWorld W e ⟨l.toArray⟩) by
              simp only [execOp, ho, hu, Sem.run_bind, hrun, Result.andThen_ok]; rfl, Oper.upon_value]
            refine hn [plB _] _ _ _ hgr (put_is (hs.app_ρ _) ?_) (by rw [put_defers]; exact hd) (hl.append _) (by simp; omega) hrest
            show CV.den _ _ = _
            simp only [CV.den]
            rw [← r.len, List.getElem?_append_right (Nat.le_refl _)]
            simp [plB, one]
          · exact hK.elim
        · exact pevK_ok hA hE r hs hd hl hl2 hn (by rw [ho]; exact hK)
      · exact hK.elim
    · exact pevK_ok hA hE r hs hd hl hl2 hn (by rw [ho]; exact hK)
  · rename_i c ho
    split at hK
    · rename_i f hc
      obtain ⟨callee, args, ats⟩ := c
      simp only at hc
      subst hc
      exact callK_ok hC r hs hd hl hl2 hn ho hK
    · rename_i i hc
      obtain ⟨callee, args, ats⟩ := c
      simp only at hc
      subst hc
      split at hK
      · rename_i f cs hv
        exact callV_ok hC r hs hd hl hl2 hn ho hv hK
      · exact hK.elim
    · rename_i hc
      obtain ⟨callee, args, ats⟩ := c
      simp only at hc hK
      subst hc
      split at hK
      · rename_i x y tx ty
        split at hK
        · exact appD_ok hA hE r hs hd hl hl2 hn ho hK
        · exact appK_ok hA hE r hs hd hl hl2 hn ho hK
      · exact hK.elim
    · rename_i hc
      obtain ⟨callee, args, ats⟩ := c
      simp only at hc hK
      subst hc
      split at hK
      · rename_i x y tx ty
        exact copyK_ok hA hE r hs hd hl hl2 hn ho hK
      · exact hK.elim
    · exact pevK_ok hA hE r hs hd hl hl2 hn (by rw [ho]; exact hK)
  · exact pevK_ok hA hE r hs hd hl hl2 hn hK
end Go.Proofs.Ytcgoaicifjndpaa.Vx
