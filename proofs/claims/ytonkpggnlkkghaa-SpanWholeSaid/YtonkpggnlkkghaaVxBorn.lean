/- A nil slice as a row without elements; functions that read slices and hand out what they made. -/
import Derived.Test.YtonkpggnlkkghaaVxRds
import Derived.Test.YtonkpggnlkkghaaVxRen
namespace Go.Proofs.Ytonkpggnlkkghaa.Vx
open Go.RowKit
set_option linter.unusedVariables false
set_option linter.unusedSimpArgs false

/-- A row without elements is there at any time. -/
theorem Rel.addNil {w0 : World} {G : List Nat} {ρ : List Pl} {h : List Ent} {W : World} (r : Rel w0 G ρ h W) (e : TypeId) (sz : Nat) (g : Nat → List CV) : Rel w0 G (ρ ++ [⟨0, .slice none 0 0, 0⟩]) (h ++ [.row e sz 0 g]) W :=
  r.bornE (en := .row e sz 0 g) (q0 := ⟨0, .slice none 0 0, 0⟩) ⟨[], ⟨fun i hi => absurd hi (by simp), rfl, fun b hb => by simp [Value.ownBlock] at hb⟩, World.ownsRow_nil W 0 e sz⟩ rfl (fun b hb => by simp [Ent.fp, Value.ownBlock] at hb)
    ⟨rfl, rfl, rfl, Nat.le_refl _, fun _ _ _ => rfl⟩ (fun b hb => by simp [Ent.fp, Value.ownBlock] at hb)

/-- The same cells in other words. -/
theorem Rel.recell {w0 : World} {G : List Nat} {ρ : List Pl} {h : List Ent} {W : World} (r : Rel w0 G ρ h W) {i : Nat} {t : TypeId} {cs cs' : List CV} (hi : h[i]? = some (.cells t cs)) (hc : ∀ vs, IsL ρ cs vs → IsL ρ cs' vs) : Rel w0 G ρ (h.set i (.cells t cs')) W := by
  have hlt : i < h.length := (List.getElem?_eq_some_iff.1 hi).1
  have hget : ∀ j e, (h.set i (.cells t cs'))[j]? = some e → (j = i ∧ e = .cells t cs') ∨ (j ≠ i ∧ h[j]? = some e) := fun j e he => by
    by_cases hj : j = i
    · subst hj
      rw [List.getElem?_set_self hlt] at he
      exact Or.inl ⟨rfl, (Option.some.inj he).symm⟩
    · rw [List.getElem?_set_ne (fun e => hj e.symm)] at he
      exact Or.inr ⟨hj, he⟩
  have hfp : ∀ j b, fp ρ (h.set i (.cells t cs')) j = some b → fp ρ h j = some b := fun j b hf => by
    obtain ⟨e, q, he, hq, hx⟩ := fp_some hf
    rcases hget j e he with ⟨rfl, rfl⟩ | ⟨hj, he'⟩
    · rw [fp_mk hi hq]; exact hx
    · rw [fp_mk he' hq]; exact hx
  refine ⟨by rw [List.length_set]; exact r.len, fun j e q he hq => ?_, fun j b hf => r.own j b (hfp j b hf), fun j k b h1 h2 => r.dis j k b (hfp j b h1) (hfp k b h2), r.kept, fun j e q b he hq h1 h2 => ?_, r.os, r.tape, r.output, r.size⟩
  · rcases hget j e he with ⟨rfl, rfl⟩ | ⟨hj, he'⟩
    · obtain ⟨vs, h1, h2⟩ := r.ok j _ q hi hq
      exact ⟨vs, hc vs h1, h2⟩
    · exact r.ok j e q he' hq
  · rcases hget j e he with ⟨rfl, rfl⟩ | ⟨hj, he'⟩
    · cases h1
    · exact r.ro j e q b he' hq h1 h2

theorem isL_nil {ρ : List Pl} {cs : List CV} {j : Nat} {vs : List Value} (hj : cs[j]? = some (.val (.slice none 0 0))) (h : IsL ρ cs vs) {k : Nat} (hk : ρ[k]? = some ⟨0, .slice none 0 0, 0⟩) : IsL ρ (cs.set j (.row k)) vs := by
  obtain ⟨u, hu1, hu2⟩ := h.get hj
  have hu : u = .slice none 0 0 := by
    simp only [CV.den, one, if_true] at hu2
    exact (Option.some.inj hu2).symm
  have h2 := h.set j (x := .row k) (u := u) (by
    simp only [CV.den, hk, one, if_true]
    rw [hu])
  have e : vs.set j u = vs := by
    obtain ⟨hlt, hg⟩ := List.getElem?_eq_some_iff.1 hu1
    rw [← hg, List.set_getElem_self]
  rw [e] at h2
  exact h2

/-- In a cell that holds the nil slice there stands a row without elements. -/
theorem Runs.nilCell {P : Program} {m : Nat} {c : Code} {st : St} {K : Ex → St → Prop} (i j : Nat) (e : TypeId) (sz : Nat) (g : Nat → List CV) {t : TypeId} {cs : List CV} (hi : st.h[i]? = some (.cells t cs)) (hj : cs[j]? = some (.val (.slice none 0 0)))
    (h : Runs P m c ⟨st.t, st.h.set i (.cells t (cs.set j (.row st.h.length))) ++ [.row e sz 0 g]⟩ K) : Runs P m c st K := by
  refine ⟨fun w0 G ρb ρ1 a W hρ r hs hd => ?_⟩
  have hil : i < st.h.length := (List.getElem?_eq_some_iff.1 hi).1
  have r1 := r.addNil e sz g
  have hk : ((ρb ++ ρ1) ++ [(⟨0, .slice none 0 0, 0⟩ : Pl)])[st.h.length]? = some ⟨0, .slice none 0 0, 0⟩ := by
    rw [← r.len, List.getElem?_append_right (Nat.le_refl _)]
    simp
  have r2 := r1.recell (i := i) (t := t) (cs := cs) (cs' := cs.set j (.row st.h.length)) (by rw [List.getElem?_append_left hil]; exact hi) (fun vs hv => isL_nil hj hv hk)
  rw [List.set_append_left _ _ hil, List.append_assoc] at r2
  exact h.run w0 G ρb (ρ1 ++ [⟨0, .slice none 0 0, 0⟩]) a W hρ r2 (by rw [← List.append_assoc]; exact hs.app_ρ _) hd

/-- So in a slot. -/
theorem Runs.nilTmp {P : Program} {m : Nat} {c : Code} {st : St} {K : Ex → St → Prop} (d : Nat) (e : TypeId) (sz : Nat) (g : Nat → List CV) (hd0 : st.t.getD d .und = .c (.val (.slice none 0 0)))
    (h : Runs P m c ⟨st.t.set d (.c (.row st.h.length)), st.h ++ [.row e sz 0 g]⟩ K) : Runs P m c st K := by
  refine ⟨fun w0 G ρb ρ1 a W hρ r hs hd => ?_⟩
  have r1 := r.addNil e sz g
  have hk : ((ρb ++ ρ1) ++ [(⟨0, .slice none 0 0, 0⟩ : Pl)])[st.h.length]? = some ⟨0, .slice none 0 0, 0⟩ := by
    rw [← r.len, List.getElem?_append_right (Nat.le_refl _)]
    simp
  have hs1 := hs.app_ρ [(⟨0, .slice none 0 0, 0⟩ : Pl)]
  have hget := tmps_get hs d
  rw [hd0] at hget
  have hu : a.tmps.getD d undef = .slice none 0 0 := by
    have h2 : CV.den (ρb ++ ρ1) (.val (.slice none 0 0)) = some (a.tmps.getD d undef) := hget
    simp only [CV.den, one, if_true] at h2
    exact (Option.some.inj h2).symm
  have hlt : d < a.tmps.size := tmps_lt hs hd0 (by simp)
  have hs2 := hs1.set d (y := .c (.row st.h.length)) (v := .slice none 0 0) (by
    show CV.den _ _ = _
    simp only [CV.den, hk, one, if_true])
  have e : a.tmps.toList.set d (.slice none 0 0) = a.tmps.toList := by
    rw [Array.getD_eq_getD_getElem?, Array.getElem?_eq_getElem hlt] at hu
    simp only [Option.getD_some] at hu
    rw [← hu]
    have : a.tmps[d] = a.tmps.toList[d]'(by simpa using hlt) := by simp
    rw [this, List.set_getElem_self]
  rw [e] at hs2
  rw [List.append_assoc] at r1 hs2
  exact h.run w0 G ρb (ρ1 ++ [⟨0, .slice none 0 0, 0⟩]) a W hρ r1 hs2 hd

/-! ### Results with places, under other numbers -/
def renE (σ : List Nat) : List (Option CV × List CV) → List (Option CV × List CV)
  | [] => []
  | (some x, cs) :: r => (some (renC σ x), cs) :: renE σ r
  | (none, cs) :: r => (none, renL σ cs) :: renE σ r
def renV (σ : List Nat) : SV → SV
  | .c x => .c (renC σ x)
  | .agg cs => .agg (renL σ cs)
  | .tup vs => .tup (renE σ vs)
  | x => x
def eltsSc (n : Nat) : List (Option CV × List CV) → Bool
  | [] => true
  | (some x, _) :: r => cvSc n x && eltsSc n r
  | (none, cs) :: r => cvsSc n cs && eltsSc n r
def svScV (n : Nat) : SV → Bool
  | .c x => cvSc n x
  | .agg cs => cvsSc n cs
  | .tup vs => eltsSc n vs
  | _ => true
theorem elts_pick {ρ : List Pl} {σ : List Nat} : ∀ {xs : List (Option CV × List CV)} {us : List Value}, eltsSc σ.length xs = true → Elts ρ (renE σ xs) us → Elts (pick σ ρ) xs us
  | [], us, _, k => k
  | (some x, cs) :: xs, us, hs, k => by
    simp only [eltsSc, Bool.and_eq_true] at hs
    obtain ⟨u, us', rfl, h1, h2⟩ := k
    exact ⟨u, us', rfl, den_pick hs.1 h1, elts_pick hs.2 h2⟩
  | (none, cs) :: xs, us, hs, k => by
    simp only [eltsSc, Bool.and_eq_true] at hs
    obtain ⟨u, us', rfl, ⟨vs, g1, g2⟩, h2⟩ := k
    exact ⟨u, us', rfl, ⟨vs, isL_pick hs.1 g1, g2⟩, elts_pick hs.2 h2⟩
theorem svV_pick {ρ : List Pl} {σ : List Nat} {y : SV} {u : Value} (hs : svScV σ.length y = true) (h : (renV σ y).is ρ u) : y.is (pick σ ρ) u := by
  cases y with
  | c y => exact den_pick hs h
  | agg cs => obtain ⟨vs, g1, g2⟩ := h; exact ⟨vs, isL_pick hs g1, g2⟩
  | tup vs => obtain ⟨us, g1, g2⟩ := h; exact ⟨us, elts_pick hs g1, g2⟩
  | und => exact h
  | any => trivial

/-! ### Results with places, behind other entries -/
def shC (n : Nat) : CV → CV
  | .ptr k o => .ptr (n + k) o
  | .row k => .row (n + k)
  | .sl k a b c => .sl (n + k) a b c
  | .eptr k i s o => .eptr (n + k) i s o
  | .aptr k i s o => .aptr (n + k) i s o
  | .vsl k i s o => .vsl (n + k) i s o
  | x => x
def shL (n : Nat) : List CV → List CV
  | [] => []
  | x :: xs => shC n x :: shL n xs
def shE (n : Nat) : List (Option CV × List CV) → List (Option CV × List CV)
  | [] => []
  | (some x, cs) :: r => (some (shC n x), cs) :: shE n r
  | (none, cs) :: r => (none, shL n cs) :: shE n r
def shV (n : Nat) : SV → SV
  | .c x => .c (shC n x)
  | .agg cs => .agg (shL n cs)
  | .tup vs => .tup (shE n vs)
  | x => x
def shEnt (n : Nat) : Ent → Ent
  | .cells t cs => .cells t (shL n cs)
  | x => x
def shEnts (n : Nat) : List Ent → List Ent
  | [] => []
  | x :: xs => shEnt n x :: shEnts n xs
theorem shEnts_map (n : Nat) : ∀ xs : List Ent, shEnts n xs = xs.map (shEnt n)
  | [] => rfl
  | x :: xs => by rw [shEnts, List.map_cons, shEnts_map n xs]

theorem sh_get {ρ ρ' : List Pl} {k : Nat} : (ρ ++ ρ')[ρ.length + k]? = ρ'[k]? := by
  rw [List.getElem?_append_right (by omega)]
  congr 1
  omega
theorem den_sh {ρ ρ' : List Pl} {x : CV} {u : Value} (h : x.den ρ' = some u) : (shC ρ.length x).den (ρ ++ ρ') = some u := by
  cases x <;> simp only [shC, CV.den, sh_get] at h ⊢ <;> exact h
theorem isL_sh {ρ ρ' : List Pl} : ∀ {xs : List CV} {us : List Value}, IsL ρ' xs us → IsL (ρ ++ ρ') (shL ρ.length xs) us
  | [], us, k => k
  | x :: xs, us, k => by
    cases us with
    | nil => simp [IsL] at k
    | cons u us =>
      simp only [IsL, List.map_cons, List.cons.injEq] at k
      exact IsL.cons (den_sh k.1) (isL_sh k.2)
theorem elts_sh {ρ ρ' : List Pl} : ∀ {xs : List (Option CV × List CV)} {us : List Value}, Elts ρ' xs us → Elts (ρ ++ ρ') (shE ρ.length xs) us
  | [], us, k => k
  | (some x, cs) :: xs, us, k => by
    obtain ⟨u, us', rfl, h1, h2⟩ := k
    exact ⟨u, us', rfl, den_sh h1, elts_sh h2⟩
  | (none, cs) :: xs, us, k => by
    obtain ⟨u, us', rfl, ⟨vs, g1, g2⟩, h2⟩ := k
    exact ⟨u, us', rfl, ⟨vs, isL_sh g1, g2⟩, elts_sh h2⟩
theorem svV_sh {ρ ρ' : List Pl} {y : SV} {u : Value} (h : y.is ρ' u) : (shV ρ.length y).is (ρ ++ ρ') u := by
  cases y with
  | c y => exact den_sh h
  | agg cs => obtain ⟨vs, g1, g2⟩ := h; exact ⟨vs, isL_sh g1, g2⟩
  | tup vs => obtain ⟨us, g1, g2⟩ := h; exact ⟨us, elts_sh g1, g2⟩
  | und => exact h
  | any => trivial
theorem ent_sh {ρ ρ' : List Pl} {e : Ent} {p : Pl} {W : World} (h : e.ok ρ' p W) : (shEnt ρ.length e).ok (ρ ++ ρ') p W := by
  cases e with
  | cells t cs => obtain ⟨vs, h1, h2⟩ := h; exact ⟨vs, isL_sh h1, h2⟩
  | row e sz n g => exact h
  | bytes e l => exact h
  | elems ty sz n g => exact h
  | glob g sz n get => exact h
  | dead => exact h
theorem shEnt_fp {n : Nat} {e : Ent} {p : Pl} : (shEnt n e).fp p = e.fp p ∧ (shEnt n e).isElems = e.isElems ∧ (shEnt n e).dep p = e.dep p := by
  cases e <;> exact ⟨rfl, rfl, rfl⟩

def noElems : List Ent → Bool
  | [] => true
  | e :: es => !e.isElems && noElems es
theorem noElems_get {es : List Ent} (h : noElems es = true) {k : Nat} {e : Ent} (hk : es[k]? = some e) : e.isElems = false := by
  induction es generalizing k with
  | nil => simp at hk
  | cons x xs ih =>
    simp only [noElems, Bool.and_eq_true, Bool.not_eq_true'] at h
    cases k with
    | zero => simp at hk; subst hk; exact h.1
    | succ k => exact ih h.2 (by simpa using hk)

/-- What a call made stands behind what was there. -/
theorem Rel.join {w0 : World} {G : List Nat} {ρ ρ' : List Pl} {h es : List Ent} {W W' : World} (r : Rel w0 G ρ h W) (k : Rel W [] ρ' es W') (hne : noElems es = true) : Rel w0 G (ρ ++ ρ') (h ++ shEnts ρ.length es) W' := by
  have r' := r.belowStep k.toBelow
  rw [shEnts_map]
  have hlen : ρ.length = h.length := r.len
  have hcase : ∀ {j : Nat} {x : Ent} {q : Pl}, (h ++ es.map (shEnt ρ.length))[j]? = some x → (ρ ++ ρ')[j]? = some q → (j < h.length ∧ h[j]? = some x ∧ ρ[j]? = some q) ∨ (∃ i e, j = h.length + i ∧ es[i]? = some e ∧ x = shEnt ρ.length e ∧ ρ'[i]? = some q) := fun {j x q} hx hq => by
    by_cases hj : j < h.length
    · rw [List.getElem?_append_left hj] at hx
      rw [List.getElem?_append_left (by omega)] at hq
      exact Or.inl ⟨hj, hx, hq⟩
    · rw [List.getElem?_append_right (by omega), List.getElem?_map] at hx
      rw [List.getElem?_append_right (by omega), hlen] at hq
      cases he : es[j - h.length]? with
      | none => rw [he] at hx; cases hx
      | some e =>
        rw [he] at hx
        exact Or.inr ⟨j - h.length, e, by omega, he, (Option.some.inj hx).symm, hq⟩
  have hfp : ∀ {j b : Nat}, fp (ρ ++ ρ') (h ++ es.map (shEnt ρ.length)) j = some b → (j < h.length ∧ fp ρ h j = some b) ∨ (∃ i, j = h.length + i ∧ fp ρ' es i = some b) := fun {j b} hf => by
    obtain ⟨x, q, hx, hq, hb⟩ := fp_some hf
    rcases hcase hx hq with ⟨h1, h2, h3⟩ | ⟨i, e, h1, h2, rfl, h3⟩
    · exact Or.inl ⟨h1, by rw [fp_mk h2 h3]; exact hb⟩
    · exact Or.inr ⟨i, h1, by rw [fp_mk h2 h3, ← shEnt_fp.1]; exact hb⟩
  have hnew : ∀ {i b : Nat}, fp ρ' es i = some b → W.heap.size ≤ b := fun {i b} hf => (k.own i b hf).2.resolve_left (by simp)
  refine ⟨by simp [hlen, k.len], fun j x q hx hq => ?_, fun j b hf => ?_, fun i j b hi hj => ?_, r'.kept, fun j x q b hx hq h1 h2 => ?_, r'.os, r'.tape, r'.output, r'.size⟩
  · rcases hcase hx hq with ⟨h1, h2, h3⟩ | ⟨i, e, h1, h2, rfl, h3⟩
    · exact Ent.ok_app (r'.ok j x q h2 h3) _
    · exact ent_sh (k.ok i e q h2 h3)
  · rcases hfp hf with ⟨h1, h2⟩ | ⟨i, h1, h2⟩
    · exact r'.own j b h2
    · exact ⟨(k.own i b h2).1, Or.inr (Nat.le_trans r.size (hnew h2))⟩
  · rcases hfp hi with ⟨a1, a2⟩ | ⟨i', a1, a2⟩
    · rcases hfp hj with ⟨b1, b2⟩ | ⟨j', b1, b2⟩
      · exact r.dis i j b a2 b2
      · have := (r.own i b a2).1; have := hnew b2; omega
    · rcases hfp hj with ⟨b1, b2⟩ | ⟨j', b1, b2⟩
      · have := (r.own j b b2).1; have := hnew a2; omega
      · have := k.dis i' j' b a2 b2
        omega
  · rcases hcase hx hq with ⟨g1, g2, g3⟩ | ⟨i, e, g1, g2, rfl, g3⟩
    · exact r.ro j x q b g2 g3 h1 h2
    · rw [(shEnt_fp (p := q)).2.1, noElems_get hne g2] at h1
      cases h1

abbrev SpecB := List SV → List View → Option (Prop × SV × List Ent)
/-- A function that reads slices and hands out what it made. -/
structure Born (P : Program) (f : FuncId) (sz : Nat) (spec : SpecB) : Prop where
  fn : callable P f = true
  no : ∀ args vs pre res es, spec args vs = some (pre, res, es) → noElems es = true
  run : ∀ args vs pre res es, spec args vs = some (pre, res, es) → pre → ∀ W ps us, GoodL W sz vs ps → IsS ps args us → Calls P f us.toArray W fun e W' => ∃ u ρ', e = .returned u ∧ res.is ρ' u ∧ Rel W [] ρ' es W'

noncomputable def appBorn (sz : Nat) (spec : SpecB) : App := fun args h =>
  match absA sz h 0 args with
  | some (as, vs) => match spec as vs with
    | some (pre, res, es) => some ⟨pre, shV h.length res, h ++ shEnts h.length es, []⟩
    | none => none
  | none => none

theorem Born.ct {P : Program} {f : FuncId} {sz : Nat} {spec : SpecB} (m : Born P f sz spec) : CtOk P f (appBorn sz spec) := by
  have hsp : ∀ args hp r, appBorn sz spec args hp = some r → ∃ as vs res es, absA sz hp 0 args = some (as, vs) ∧ spec as vs = some (r.pre, res, es) ∧ r.res = shV hp.length res ∧ r.h = hp ++ shEnts hp.length es ∧ r.ms = [] := fun args hp r hr => by
    unfold appBorn at hr
    split at hr
    · rename_i as vs ha
      split at hr
      · rename_i pre res es hs
        cases hr
        exact ⟨as, vs, res, es, ha, hs, rfl, rfl, rfl⟩
      · cases hr
    · cases hr
  refine ⟨callable_spec m.fn, fun args hp r hr => ?_, fun args hp r hr hpre ρ W us rel hs => ?_⟩
  · obtain ⟨as, vs, res, es, _, h2, _, h4, h5⟩ := hsp args hp r hr
    rw [h4]
    refine ⟨by simp, fun k hk _ => by rw [List.getElem?_append_left hk], fun j e he hel => ?_⟩
    by_cases hj : j < hp.length
    · rw [List.getElem?_append_left hj] at he; exact he
    · rw [List.getElem?_append_right (by omega), shEnts_map, List.getElem?_map] at he
      cases hx : es[j - hp.length]? with
      | none => rw [hx] at he; cases he
      | some x =>
        rw [hx] at he
        cases he
        rw [(shEnt_fp (p := ⟨0, undef, 0⟩)).2.1, noElems_get (m.no _ _ _ _ _ h2) hx] at hel
        cases hel
  · obtain ⟨as, vs, res, es, ha, h2, h3, h4, h5⟩ := hsp args hp r hr
    obtain ⟨ps, g, hq⟩ := absA_ok rel ha hs
    have hi := hq [] [] rfl
    rw [List.nil_append, List.append_nil] at hi
    refine Calls.mono (m.run as vs _ res es h2 hpre W ps us g hi) fun e W' he => ?_
    obtain ⟨u, ρ', rfl, hu, hr'⟩ := he
    refine ⟨u, ρ', rfl, ?_, ?_⟩
    · rw [h3, ← rel.len]
      exact svV_sh hu
    · rw [h4, ← rel.len]
      exact rel.join hr' (m.no _ _ _ _ _ h2)

/-- As cvSame, but that the nil slice may be told as the row k. -/
def cvSameN (k : Nat) : CV → CV → Prop
  | .val (.slice none 0 0), .row j => j = k
  | x, y => cvSame x y
def cvsSameN (k : Nat) : List CV → List CV → Prop
  | [], [] => True
  | x :: xs, y :: ys => cvSameN k x y ∧ cvsSameN k xs ys
  | _, _ => False
def eltsSameN (k : Nat) : List (Option CV × List CV) → List (Option CV × List CV) → Prop
  | [], [] => True
  | (some x, _) :: r, (some y, _) :: s => cvSameN k x y ∧ eltsSameN k r s
  | (none, xs) :: r, (none, ys) :: s => cvsSameN k xs ys ∧ eltsSameN k r s
  | _, _ => False
def svSameN (k : Nat) : SV → SV → Prop
  | .c x, .c y => cvSameN k x y
  | .agg xs, .agg ys => cvsSameN k xs ys
  | .tup xs, .tup ys => eltsSameN k xs ys
  | _, _ => False
theorem cvSameN_ok {k : Nat} {x y : CV} (h : cvSameN k x y) {ρ : List Pl} (hk : ρ[k]? = some ⟨0, .slice none 0 0, 0⟩) {u : Value} (d : x.den ρ = some u) : y.den ρ = some u := by
  unfold cvSameN at h
  split at h
  · subst h
    simp only [CV.den, hk, one, if_true] at d ⊢
    exact d
  · exact cvSame_ok h d
theorem cvsSameN_ok {k : Nat} {ρ : List Pl} (hk : ρ[k]? = some ⟨0, .slice none 0 0, 0⟩) : ∀ {xs ys : List CV} {us : List Value}, cvsSameN k xs ys → IsL ρ xs us → IsL ρ ys us
  | [], [], us, _, d => d
  | x :: xs, y :: ys, us, h, d => by
    cases us with
    | nil => simp [IsL] at d
    | cons u us =>
      simp only [IsL, List.map_cons, List.cons.injEq] at d
      exact IsL.cons (cvSameN_ok h.1 hk d.1) (cvsSameN_ok hk h.2 d.2)
  | [], _ :: _, _, h, _ => h.elim
  | _ :: _, [], _, h, _ => h.elim
theorem eltsSameN_ok {k : Nat} {ρ : List Pl} (hk : ρ[k]? = some ⟨0, .slice none 0 0, 0⟩) : ∀ {xs ys : List (Option CV × List CV)} {us : List Value}, eltsSameN k xs ys → Elts ρ xs us → Elts ρ ys us
  | [], [], us, _, d => d
  | (some x, _) :: xs, (some y, _) :: ys, us, h, d => by
    obtain ⟨u, us', rfl, h1, h2⟩ := d
    exact ⟨u, us', rfl, cvSameN_ok h.1 hk h1, eltsSameN_ok hk h.2 h2⟩
  | (none, x) :: xs, (none, y) :: ys, us, h, d => by
    obtain ⟨u, us', rfl, ⟨vs, g1, g2⟩, h2⟩ := d
    exact ⟨u, us', rfl, ⟨vs, cvsSameN_ok hk h.1 g1, g2⟩, eltsSameN_ok hk h.2 h2⟩
  | [], _ :: _, _, h, _ => by simp [eltsSameN] at h
  | _ :: _, [], _, h, _ => by simp [eltsSameN] at h
  | (some _, _) :: _, (none, _) :: _, _, h, _ => by simp [eltsSameN] at h
  | (none, _) :: _, (some _, _) :: _, _, h, _ => by simp [eltsSameN] at h
theorem svSameN_ok {k : Nat} {x y : SV} (h : svSameN k x y) {ρ : List Pl} (hk : ρ[k]? = some ⟨0, .slice none 0 0, 0⟩) {u : Value} (d : x.is ρ u) : y.is ρ u := by
  unfold svSameN at h
  split at h
  · exact cvSameN_ok h hk d
  · obtain ⟨vs, h1, h2⟩ := d; exact ⟨vs, cvsSameN_ok hk h h1, h2⟩
  · obtain ⟨us, h1, h2⟩ := d; exact ⟨us, eltsSameN_ok hk h h1, h2⟩
  · exact h.elim

/-- What the function leaves: its result and what that hangs on, under the numbers σ; behind the entries stands a row without elements, for nil slices. -/
structure Left (ty : TypeId) (sz : Nat) (σ : List Nat) (v : SV) (h : List Ent) (res : SV) (es : List Ent) : Prop where
  sc : svScV σ.length res = true
  v : svSameN h.length v (renV σ res)
  d : σ.Nodup
  h : hLeR σ (h ++ [.row ty sz 0 fun _ => []]) σ es

theorem Born.of {P : Program} {E : Tbl} {C : List (Nat × App)} (M : List Nat) (U : Nat) (R : List (Nat × List (Nat × Bool))) (hE : E.Ok P) (hC : CtsOk P C) (hm : P.follows .mixedOrders = true)
    {f : FuncId} {fn : Func} {c : Code} {n : Nat} {res : List ResultVar} (hf : P.funcs[f]? = some fn) (hb : fn.body = some c) (hn : fn.ntmps = n) (hr : fn.results.toList = res) (hc : codeOk R c = true) (hcall : callable P f = true)
    {sz : Nat} (ty : TypeId) (m : Nat) (ty' : TypeId) (sz' : Nat) {spec : SpecB} (hpf : ∀ args vs pre r es, spec args vs = some (pre, r, es) → noElems es = true ∧ vs.length = m)
    (hx : ∀ args vs pre r es, spec args vs = some (pre, r, es) → pre → ∃ ws, SameV vs ws ∧ exec (env (lft P m) U .std E C R) M c ⟨args ++ List.replicate (n - args.length) .und, ws.map (viewE ty sz)⟩ (fin .std E res fun v h => ∃ σ, Left ty' sz' σ v h r es)) : Born P f sz spec := by
  refine ⟨hcall, fun args vs pre r es hs => (hpf args vs pre r es hs).1, fun args vs pre r es hs hp W ps us g hus => ?_⟩
  obtain ⟨ws, hw, hx'⟩ := hx args vs pre r es hs hp
  have g' := g.same hw
  have hl : (ws.map (viewE ty sz)).length = m := by rw [List.length_map, ← hw.1, (hpf _ _ _ _ _ hs).2]
  refine Calls.mono (fn_ok (N := env (lft P m) U .std E C R) rfl hE hC hm M hf hb hn hr hc (h := ws.map (viewE ty sz)) (fun c st K _ h => by rw [hl]; exact h) (g'.rel ty) hus _ hx') fun e W' he => ?_
  obtain ⟨v, u, ρ', h', rfl, h1, h2, σ, l1, l2, l3, l4⟩ := he
  have h3 := h2.addNil ty' sz' (fun _ => [])
  have hk : ((ps ++ ρ') ++ [(⟨0, .slice none 0 0, 0⟩ : Pl)])[h'.length]? = some ⟨0, .slice none 0 0, 0⟩ := by
    rw [← h2.len, List.getElem?_append_right (Nat.le_refl _)]
    simp
  exact ⟨u, pick σ ((ps ++ ρ') ++ [⟨0, .slice none 0 0, 0⟩]), rfl, svV_pick l1 (svSameN_ok l2 hk (SV.is_app h1 _)), h3.pick l4 l3⟩
end Go.Proofs.Ytonkpggnlkkghaa.Vx
