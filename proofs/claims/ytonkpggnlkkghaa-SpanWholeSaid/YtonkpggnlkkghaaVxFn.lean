/- The walker is sound: functions; contracts of functions that only compute. -/
import Derived.Test.YtonkpggnlkkghaaVxRun
namespace Go.Proofs.Ytonkpggnlkkghaa.Vx
open Go.RowKit
set_option linter.unusedVariables false
set_option linter.unusedSimpArgs false

theorem loadR_ok {P : Program} {E : Tbl} (hE : E.Ok P) {w0 W : World} {G : List Nat} {ρ : List Pl} {h : List Ent} (r : Rel w0 G ρ h W) {t : Nat} {x v : SV} {u : Value} (hx : x.is ρ u) (hl : loadR .std E h t x = .ok v) :
    ∃ y, v.is ρ y ∧ (do loadVar t (← asAddr u) : Sem Value).run P W = .ok y W := by
  unfold loadR at hl
  split at hl
  rotate_left
  · repeat' split at hl
    all_goals cases hl
  · repeat' split at hl
    all_goals cases hl
  · cases hl
  · rename_i k off
    split at hl
    · rename_i i ty2 cs hi hk
      obtain ⟨i1, d1, z1, T1⟩ := TI.spec (hE.T t i hi)
      obtain ⟨p, hp, rfl⟩ := den_ptr hx
      obtain ⟨vs, hv, hb⟩ := r.ok k _ p hk hp
      have ha := ag_ok hv i.agg off i.size
      rw [hl] at ha
      obtain ⟨y, h1, h2⟩ := ha
      refine ⟨y, h1, ?_⟩
      simp only [asAddr, Sem.run_bind, Sem.run_pure, Result.andThen_ok]
      rw [T1.agg, ← T1.size] at h2
      exact run_loadVar T1.info T1.und hb h2
    · cases hl

def resOf (tmps : Array Value) : ResultVar → Sem Value
  | .tmp t => pure (tmps.getD t undef)
  | .cell b t => do loadVar t (← asAddr (tmps.getD b undef))

theorem results_eq (fn : Func) (tmps : Array Value) : results fn tmps = (do
    let vs ← fn.results.mapM (resOf tmps)
    pure (if h : vs.size = 1 then vs[0] else .tuple vs)) := by
  unfold results
  congr 1

theorem retVal_ok {P : Program} {E : Tbl} (hE : E.Ok P) {w0 W : World} {G : List Nat} {ρ : List Pl} {st : St} (r : Rel w0 G ρ st.h W) {a : Act} (hs : IsS ρ st.t a.tmps.toList) {x : ResultVar} {v : SV} (h : retVal .std E st x = some v) :
    ∃ y, v.is ρ y ∧ (resOf a.tmps x).run P W = .ok y W := by
  cases x with
  | tmp t =>
    simp only [retVal, Option.some.injEq] at h
    subst h
    exact ⟨_, tmps_get hs t, rfl⟩
  | cell b t =>
    simp only [retVal] at h
    split at h
    · rename_i v' hv
      simp only [Option.some.injEq] at h
      subst h
      exact loadR_ok hE r (tmps_get hs b) hv
    · cases h

theorem elt_is {ρ : List Pl} {v : SV} {u : Value} {e : Option CV × List CV} (h : eltOf v = some e) (hv : v.is ρ u) : Elt ρ e u := by
  cases v <;> simp only [eltOf] at h <;> try (cases h; done)
  · cases h; exact hv
  · cases h; exact hv

theorem rets_ok {P : Program} {E : Tbl} (hE : E.Ok P) {w0 W : World} {G : List Nat} {ρ : List Pl} {st : St} (r : Rel w0 G ρ st.h W) {a : Act} (hs : IsS ρ st.t a.tmps.toList) :
    ∀ (xs : List ResultVar) (es : List (Option CV × List CV)), eltsOf (xs.map (retVal .std E st)) = some es → ∃ ys, Elts ρ es ys ∧ (xs.mapM (resOf a.tmps)).run P W = .ok ys W
  | [], es, h => by simp [eltsOf] at h; subst h; exact ⟨[], rfl, rfl⟩
  | x :: xs, es, h => by
    simp only [List.map_cons] at h
    cases hx : retVal .std E st x with
    | none => rw [hx] at h; simp [eltsOf] at h
    | some v =>
      rw [hx] at h
      simp only [eltsOf] at h
      split at h
      · rename_i e es' he hes
        simp only [Option.some.injEq] at h
        subst h
        obtain ⟨y, h1, h2⟩ := retVal_ok (P := P) hE r hs hx
        obtain ⟨ys, h3, h4⟩ := rets_ok hE r hs xs es' hes
        refine ⟨y :: ys, ⟨y, ys, rfl, elt_is he h1, h3⟩, ?_⟩
        rw [List.mapM_cons, Sem.run_bind, h2, Result.andThen_ok, Sem.run_bind, h4]
        rfl
      · cases h

theorem fin_ok {P : Program} {E : Tbl} (hE : E.Ok P) {w0 W : World} {G : List Nat} {ρ : List Pl} {st : St} (r : Rel w0 G ρ st.h W) {a : Act} (hs : IsS ρ st.t a.tmps.toList) {fn : Func} {Q : SV → List Ent → Prop} {ex : Ex}
    (h : fin .std E fn.results.toList Q ex st) : ∃ v y, v.is ρ y ∧ (results fn a.tmps).run P W = .ok y W ∧ Q v st.h := by
  have hres : ∀ ys : List Value, (fn.results.toList.mapM (resOf a.tmps)).run P W = .ok ys W → (results fn a.tmps).run P W = .ok (if h : ys.toArray.size = 1 then ys.toArray[0] else .tuple ys.toArray) W := fun ys hy => by
    rw [results_eq, Sem.run_bind, Array.mapM_eq_mapM_toList, Sem.run_map, hy]
    rfl
  have h' : match fn.results.toList with
    | [x] => match retVal .std E st x with
      | some v => Q v st.h
      | none => False
    | xs => match eltsOf (xs.map (retVal .std E st)) with
      | some es => Q (.tup es) st.h
      | none => False := by
    cases ex <;> first | exact h | exact (show False from h).elim
  clear h
  split at h'
  · rename_i x hx
    rw [hx] at hres
    split at h'
    · rename_i v hv
      obtain ⟨y, h1, h2⟩ := retVal_ok (P := P) hE r hs hv
      refine ⟨v, y, h1, ?_, h'⟩
      have := hres [y] (by
        rw [List.mapM_cons, Sem.run_bind, h2]
        rfl)
      simpa using this
    · exact h'.elim
  · rename_i hne
    split at h'
    · rename_i es hes
      obtain ⟨ys, h1, h2⟩ := rets_ok (P := P) hE r hs _ es hes
      refine ⟨.tup es, .tuple ys.toArray, ⟨ys, h1, rfl⟩, ?_, h'⟩
      have := hres ys h2
      rw [this]
      have hl : ys.length ≠ 1 := fun hl => by
        have e1 : ∀ (es : List (Option CV × List CV)) (ys : List Value), Elts ρ es ys → es.length = ys.length := by
          intro es
          induction es with
          | nil => intro ys h; cases h; rfl
          | cons e es ih => intro ys h; obtain ⟨u, us, rfl, _, h2⟩ := h; simp [ih us h2]
        have e2 : ∀ (xs : List (Option SV)) (es : List (Option CV × List CV)), eltsOf xs = some es → xs.length = es.length := by
          intro xs
          induction xs with
          | nil => intro es h; simp [eltsOf] at h; subst h; rfl
          | cons x xs ih =>
            intro es h
            cases x with
            | none => simp [eltsOf] at h
            | some v =>
              simp only [eltsOf] at h
              split at h
              · rename_i e es' he hes'
                simp only [Option.some.injEq] at h
                subst h
                simp [ih es' hes']
              · cases h
        have e3 := e1 _ _ h1
        have e4 := e2 _ _ hes
        simp only [List.length_map] at e4
        have e5 : fn.results.toList.length = 1 := by omega
        obtain ⟨x, hx⟩ := List.length_eq_one_iff.1 e5
        exact hne x hx
      rw [dif_neg (by simpa using hl)]
    · exact h'.elim

/-- The walker, at a function: from entries that are known. -/
theorem fn_ok {P : Program} {N : Env} (hA : N.A = .std) (hE : N.E.Ok P) (hC : CtsOk P N.C) (hm : P.follows .mixedOrders = true) (M : List Nat)
    {f : FuncId} {fn : Func} {c : Code} {n : Nat} {res : List ResultVar} (hf : P.funcs[f]? = some fn) (hb : fn.body = some c) (hn : fn.ntmps = n) (hr : fn.results.toList = res) (hc : codeOk N.R c = true)
    {args : List SV} {us : List Value} {ρ : List Pl} {h : List Ent} {w0 w : World} {G : List Nat} (hL : ∀ c st K, codeOk N.R c = true → N.L c st K → Runs P h.length (.loop c) st K) (r : Rel w0 G ρ h w) (hs : IsS ρ args us) (Q : SV → List Ent → Prop)
    (hx : exec N M c ⟨args ++ List.replicate (n - args.length) .und, h⟩ (fin N.A N.E res Q)) :
    Calls P f us.toArray w fun e W' => ∃ v u ρ' h', e = .returned u ∧ v.is (ρ ++ ρ') u ∧ Rel w0 G (ρ ++ ρ') h' W' ∧ Q v h' := by
  refine calls_of_wp hf hb ?_
  have hlen := hs.len
  have hargs : IsS ρ (args ++ List.replicate (n - args.length) .und) (us.toArray ++ Array.replicate (fn.ntmps - us.toArray.size) undef).toList := by
    simp only [Array.toList_append, Array.toList_replicate, List.size_toArray, hn, ← hlen]
    exact hs.append (IsS.undefs _)
  refine Code.wp_mono (fun e a W hq => ?_) ((exec_ok hA hE hC hL hm M c _ _ hc hx).run w0 G ρ [] _ w r.len (by rw [List.append_nil]; exact r) (by rw [List.append_nil]; exact hargs) rfl)
  obtain ⟨ex, st, ρ', he, r', hs', hd, hk⟩ := hq
  rw [← hr, hA] at hk
  obtain ⟨v, y, h1, h2, h3⟩ := fin_ok (P := P) hE r' hs' hk
  cases ex with
  | normal =>
    cases e <;> try exact (show False from he).elim
    exact bodyPost_end h2 hd ⟨v, y, ρ', st.h, rfl, h1, r', h3⟩
  | exit i => exact (show False from hk).elim
  | ret =>
    cases e <;> try exact (show False from he).elim
    exact bodyPost_ret h2 hd ⟨v, y, ρ', st.h, rfl, h1, r', h3⟩

/-! ### Values without a place -/
def pfe : List (Option CV × List CV) → Bool
  | [] => true
  | (some x, _) :: r => x.pf && pfe r
  | (none, cs) :: r => pfs cs && pfe r
def SV.pf : SV → Bool
  | .c x => x.pf
  | .agg cs => pfs cs
  | .tup vs => pfe vs
  | .und => true
  | .any => true
def pfa : List SV → Bool
  | [] => true
  | x :: xs => x.pf && pfa xs

theorem elts_pf {vs : List (Option CV × List CV)} (h : pfe vs = true) {ρ : List Pl} {us : List Value} (k : Elts ρ vs us) (ρ' : List Pl) : Elts ρ' vs us := by
  induction vs generalizing us with
  | nil => exact k
  | cons e es ih =>
    obtain ⟨u, us', rfl, h1, h2⟩ := k
    obtain ⟨_ | x, cs⟩ := e
    · simp only [pfe, Bool.and_eq_true] at h
      obtain ⟨vs, g1, g2⟩ := h1
      exact ⟨u, us', rfl, ⟨vs, isL_pf h.1 g1 ρ', g2⟩, ih h.2 h2⟩
    · simp only [pfe, Bool.and_eq_true] at h
      exact ⟨u, us', rfl, (CV.den_pf h.1 ρ' ρ).trans h1, ih h.2 h2⟩
theorem SV.is_pf {v : SV} (h : v.pf = true) {ρ : List Pl} {u : Value} (k : v.is ρ u) (ρ' : List Pl) : v.is ρ' u := by
  cases v with
  | c x => exact (CV.den_pf h ρ' ρ).trans k
  | agg cs => obtain ⟨vs, h1, h2⟩ := k; exact ⟨vs, isL_pf h h1 ρ', h2⟩
  | tup vs => obtain ⟨us, h1, h2⟩ := k; exact ⟨us, elts_pf h h1 ρ', h2⟩
  | und => exact k
  | any => trivial
theorem isS_pf {xs : List SV} (h : pfa xs = true) {ρ : List Pl} {us : List Value} (k : IsS ρ xs us) (ρ' : List Pl) : IsS ρ' xs us := by
  induction xs generalizing us with
  | nil => exact k
  | cons x xs ih =>
    simp only [pfa, Bool.and_eq_true] at h
    obtain ⟨u, us', rfl, h1, h2⟩ := k
    exact ⟨u, us', rfl, SV.is_pf h.1 h1 ρ', ih h.2 h2⟩

def callable (P : Program) (f : FuncId) : Bool :=
  match P.funcs[f]? with
  | some fn => !fn.body.isNone && !(fn.name == "runtime.NumGoroutine")
  | none => false
theorem callable_spec {P : Program} {f : FuncId} (h : callable P f = true) : ∃ fn, P.funcs[f]? = some fn ∧ fn.body.isNone = false ∧ (fn.name == "runtime.NumGoroutine") = false := by
  unfold callable at h
  split at h
  · rename_i fn hf
    simp only [Bool.and_eq_true, Bool.not_eq_true'] at h
    exact ⟨fn, hf, h.1, h.2⟩
  · cases h

/-- A function that only computes: its arguments and its result hold no place. -/
structure Pure (P : Program) (f : FuncId) (spec : List SV → Option (Prop × SV)) : Prop where
  fn : callable P f = true
  run : ∀ args pre res, spec args = some (pre, res) → pre → ∀ us, IsS [] args us → ∀ W, Calls P f us.toArray W fun e W' => ∃ u, e = .returned u ∧ res.is [] u ∧ Below W.heap.size W W'

def appPure (spec : List SV → Option (Prop × SV)) : App := fun args h =>
  match pfa args with
  | true => match spec args with
    | some (pre, res) => some ⟨pre, res, h, []⟩
    | none => none
  | false => none

/-- Frozen in time: nothing that was there has turned. -/
theorem Rel.belowStep {w0 : World} {G : List Nat} {ρ : List Pl} {h : List Ent} {W W' : World} (r : Rel w0 G ρ h W) (b : Below W.heap.size W W') : Rel w0 G ρ h W' := by
  refine ⟨r.len, fun k e p he hp => Ent.ok_of_block (r.ok k e p he hp) fun c hc => b.block c (r.dep_lt he hp hc), fun k c hf => ⟨Nat.lt_of_lt_of_le (r.own k c hf).1 b.size, (r.own k c hf).2⟩, r.dis,
    fun i hi hG => (b.block i (Nat.lt_of_lt_of_le hi r.size)).trans (r.kept i hi hG), r.ro, b.os.trans r.os, b.tape.trans r.tape, b.output.trans r.output, Nat.le_trans r.size b.size⟩

theorem Rel.toBelow {w W : World} {ρ : List Pl} {h : List Ent} (r : Rel w [] ρ h W) : Below w.heap.size w W :=
  ⟨r.os, r.tape, r.output, r.size, fun k hk => r.kept k hk (by simp)⟩

theorem Pure.ct {P : Program} {f : FuncId} {spec : List SV → Option (Prop × SV)} (h : Pure P f spec) : CtOk P f (appPure spec) := by
  have hsp : ∀ args hp r, appPure spec args hp = some r → pfa args = true ∧ spec args = some (r.pre, r.res) ∧ r.h = hp ∧ r.ms = [] := fun args hp r hr => by
    unfold appPure at hr
    split at hr
    · split at hr
      · rename_i h1 _ pre res h2
        simp only [Option.some.injEq] at hr
        subst hr
        exact ⟨h1, h2, rfl, rfl⟩
      · cases hr
    · cases hr
  refine ⟨callable_spec h.fn, fun args hp r hr => ?_, fun args hp r hr hpre ρ W us rel hs => ?_⟩
  · obtain ⟨_, _, h3, _⟩ := hsp args hp r hr
    rw [h3]
    exact ⟨Nat.le_refl _, fun _ _ _ => rfl, fun _ _ h _ => h⟩
  · obtain ⟨h1, h2, h3, _⟩ := hsp args hp r hr
    refine Calls.mono (h.run args r.pre r.res h2 hpre us (isS_pf h1 hs []) W) fun e W' he => ?_
    obtain ⟨u, rfl, hu, hb⟩ := he
    refine ⟨u, [], rfl, ?_, ?_⟩
    · rw [List.append_nil]
      have := SV.is_app hu ρ
      simpa using this
    · rw [List.append_nil, h3]
      exact rel.belowStep hb
end Go.Proofs.Ytonkpggnlkkghaa.Vx
