/- Functions that read slices, wherever in their arguments the slices lie. -/
import Derived.Test.YtonkpggnlkkghaaVxSl
namespace Go.Proofs.Ytonkpggnlkkghaa.Vx
open Go.RowKit
set_option linter.unusedVariables false
set_option linter.unusedSimpArgs false

/-- How many elements, and what they are. -/
abbrev View := Nat × (Nat → List CV)
def viewE (ty : TypeId) (sz : Nat) (v : View) : Ent := .elems ty sz v.1 v.2

/-- The elements of a slice. -/
noncomputable def viewC (sz : Nat) (h : List Ent) : CV → Option View
  | .row k => match (h[k]?).bind Ent.view with
    | some (sz', n, get) => match Nat.beq sz sz' with
      | true => some (n, get)
      | false => none
    | none => none
  | .vsl k lo n sz' => match (h[k]?).bind Ent.view with
    | some (sz2, m, get) => match Nat.beq sz sz' && Nat.beq sz sz2 with
      | true => some (n, fun i => get (lo + i))
      | false => none
    | none => none
  | .sl k off len cap => match h[k]? with
    | some (.cells t cs) => match pfs cs && Nat.ble (off + len * sz) cs.length && Nat.ble len cap with
      | true => some (len, cutC sz cs off)
      | false => none
    | _ => none
  | .val (.slice none 0 0) => some (0, fun _ => [])
  | _ => none

/-- A place at which the elements lie. -/
structure Good (W : World) (sz : Nat) (v : View) (p : Pl) : Prop where
  sl : ∃ a cap, p.v = .slice a v.1 cap ∧ v.1 ≤ cap ∧ (0 < v.1 → a = some ⟨p.b, p.o, none⟩)
  lt : 0 < v.1 → p.b < W.heap.size
  get : ∀ i, i < v.1 → ∃ vs, IsL [] (v.2 i) vs ∧ ∀ j w, vs[j]? = some w → W.cell? ⟨p.b, p.o + i * sz + j, none⟩ = some w

theorem view_dep {ρ : List Pl} {en : Ent} {p : Pl} {W : World} {sz n : Nat} {get : Nat → List CV} (hen : en.view = some (sz, n, get)) (h : en.ok ρ p W) (hn : 0 < n) : en.dep p = some p.b := by
  obtain ⟨⟨a, cap, hpv, _, ha⟩, _⟩ := Ent.view_ok hen h
  cases en with
  | elems t sz' n' get' => cases hen; simp [Ent.dep, hn]
  | row t sz' n' get' => cases hen; simp [Ent.dep, hpv, ha hn, Value.ownBlock]
  | bytes t l => cases hen; simp [Ent.dep, hpv, ha hn, Value.ownBlock]
  | cells t cs => cases hen
  | glob g sz n get => cases hen
  | dead => cases hen
/-- A part of a row is a place at which elements lie. -/
theorem view_sub {w0 W : World} {G : List Nat} {ρ : List Pl} {h : List Ent} {sz m lo n m' cap k : Nat} {a : Option Addr} {en : Ent} {get : Nat → List CV} {p : Pl} (hen : en.view = some (sz, m, get)) (rel : Rel w0 G ρ h W) (hk : h[k]? = some en) (hpk : ρ[k]? = some p)
    (hpv : p.v = .slice a m' cap) (hm : lo + n ≤ m') : ∃ q : Pl, q.v = .slice (if cap = lo then a else a.map (·.add (lo * sz))) n (cap - lo) ∧ Good W sz (n, fun i => get (lo + i)) q ∧ q.b = p.b := by
  have hok := rel.ok k _ p hk hpk
  obtain ⟨rfl, hc, ha⟩ := view_part hen hok hpv hm
  obtain ⟨_, hget⟩ := Ent.view_ok hen hok
  refine ⟨⟨p.b, _, p.o + lo * sz⟩, rfl, ⟨⟨_, _, rfl, by show n ≤ cap - lo; omega, ha⟩, fun h0 => rel.dep_lt hk hpk (b := p.b) (view_dep hen hok (by have : 0 < n := h0; omega)), fun i hi => ?_⟩, rfl⟩
  have hi : i < n := hi
  obtain ⟨vs, h1, h2⟩ := hget (lo + i) (by omega)
  refine ⟨vs, h1, fun j w hj => ?_⟩
  have := h2 j w hj
  rw [show p.o + (lo + i) * sz + j = p.o + lo * sz + i * sz + j by rw [Nat.add_mul]; omega] at this
  exact this

theorem viewC_ok {w0 W : World} {G : List Nat} {ρ : List Pl} {h : List Ent} {sz : Nat} (rel : Rel w0 G ρ h W) {x : CV} {v : View} {u : Value} (hv : viewC sz h x = some v) (hu : x.den ρ = some u) : ∃ p : Pl, p.v = u ∧ Good W sz v p := by
  unfold viewC at hv
  split at hv
  · rename_i k
    obtain ⟨p, hpk, rfl⟩ := den_row hu
    split at hv
    · rename_i sz' n get hvw
      obtain ⟨en, hk, hen⟩ := Option.bind_eq_some_iff.1 hvw
      split at hv
      · rename_i hb
        have hsz : sz = sz' := by simpa using hb
        subst hsz
        cases hv
        obtain ⟨⟨a, cap, hpv, hcap, ha⟩, hget⟩ := Ent.view_ok hen (rel.ok k _ p hk hpk)
        exact ⟨p, rfl, ⟨a, cap, hpv, hcap, ha⟩, fun hn => rel.dep_lt hk hpk (b := p.b) (view_dep hen (rel.ok k _ p hk hpk) hn), hget⟩
      · cases hv
    · cases hv
  · rename_i k lo n sz'
    obtain ⟨p, a, m', cap, hpk, hpv, hm, rfl⟩ := den_vsl hu
    split at hv
    · rename_i sz2 m get hvw
      obtain ⟨en, hk, hen⟩ := Option.bind_eq_some_iff.1 hvw
      split at hv
      · rename_i hb
        simp only [Bool.and_eq_true, Nat.beq_eq] at hb
        obtain ⟨rfl, rfl⟩ := hb
        cases hv
        obtain ⟨q, h1, h2, _⟩ := view_sub hen rel hk hpk hpv hm
        exact ⟨q, h1, h2⟩
      · cases hv
    · cases hv
  · rename_i k off len cap
    obtain ⟨p, hpk, rfl⟩ := den_sl hu
    split at hv
    · rename_i t cs hk
      split at hv
      · rename_i hb
        simp only [Bool.and_eq_true, Nat.ble_eq] at hb
        obtain ⟨hb, hlc⟩ := hb
        cases hv
        obtain ⟨vs, hv1, hv2⟩ := rel.ok k _ p hk hpk
        have hlt : p.b < W.heap.size := (Array.getElem?_eq_some_iff.1 hv2).1
        refine ⟨⟨p.b, .slice (some ⟨p.b, off, none⟩) len cap, off⟩, rfl, ⟨_, _, rfl, hlc, fun _ => rfl⟩, fun _ => hlt, fun i hi => ⟨_, ((isL_pf hb.1 hv1 []).drop _).take _, fun j w hj => ?_⟩⟩
        rw [cell_of_row W p.b _ _ t (0, 0) hv2]
        simp only [List.getElem?_take, List.getElem?_drop] at hj
        split at hj
        · simpa using hj
        · cases hj
      · cases hv
    · cases hv
  · cases hv
    have : u = .slice none 0 0 := by
      simp only [CV.den, one, if_true] at hu
      exact (Option.some.inj hu).symm
    subst this
    exact ⟨⟨0, .slice none 0 0, 0⟩, rfl, ⟨none, 0, rfl, Nat.le_refl _, fun h => absurd h (by decide)⟩, fun h => absurd h (by decide), fun i hi => absurd hi (by simp)⟩
  · cases hv

/-- Cells with their slices numbered from k on. -/
noncomputable def absC (sz : Nat) (h : List Ent) : Nat → List CV → Option (List CV × List View)
  | _, [] => some ([], [])
  | k, x :: xs => match viewC sz h x with
    | some v => match absC sz h (k + 1) xs with
      | some (ys, vs) => some (.row k :: ys, v :: vs)
      | none => none
    | none => match x.pf with
      | true => match absC sz h k xs with
        | some (ys, vs) => some (x :: ys, vs)
        | none => none
      | false => none
noncomputable def absA (sz : Nat) (h : List Ent) : Nat → List SV → Option (List SV × List View)
  | _, [] => some ([], [])
  | k, .c x :: xs => match absC sz h k [x] with
    | some ([y], vs) => match absA sz h (k + vs.length) xs with
      | some (ys, ws) => some (.c y :: ys, vs ++ ws)
      | none => none
    | _ => none
  | k, .agg cs :: xs => match absC sz h k cs with
    | some (ds, vs) => match absA sz h (k + vs.length) xs with
      | some (ys, ws) => some (.agg ds :: ys, vs ++ ws)
      | none => none
    | none => none
  | _, _ => none

def GoodL (W : World) (sz : Nat) (vs : List View) (ps : List Pl) : Prop := ps.length = vs.length ∧ ∀ (j : Nat) (v : View) (p : Pl), vs[j]? = some v → ps[j]? = some p → Good W sz v p

theorem GoodL.len {W : World} {sz : Nat} {vs : List View} {ps : List Pl} (g : GoodL W sz vs ps) : ps.length = vs.length := g.1
theorem GoodL.nil (W : World) (sz : Nat) : GoodL W sz [] [] := ⟨rfl, fun j v p h => by simp at h⟩
theorem GoodL.cons {W : World} {sz : Nat} {v : View} {p : Pl} {vs : List View} {ps : List Pl} (h : Good W sz v p) (hs : GoodL W sz vs ps) : GoodL W sz (v :: vs) (p :: ps) := by
  refine ⟨by simp [hs.1], fun j v' p' h1 h2 => ?_⟩
  cases j with
  | zero =>
    simp at h1 h2
    subst h1 h2
    exact h
  | succ j => exact hs.2 j v' p' (by simpa using h1) (by simpa using h2)
theorem GoodL.append {W : World} {sz : Nat} {vs ws : List View} {ps qs : List Pl} (h : GoodL W sz vs ps) (k : GoodL W sz ws qs) : GoodL W sz (vs ++ ws) (ps ++ qs) := by
  refine ⟨by simp [h.1, k.1], fun j v p h1 h2 => ?_⟩
  by_cases hj : j < vs.length
  · rw [List.getElem?_append_left hj] at h1
    rw [List.getElem?_append_left (by rw [h.1]; exact hj)] at h2
    exact h.2 j v p h1 h2
  · rw [List.getElem?_append_right (by omega)] at h1
    rw [List.getElem?_append_right (by rw [h.1]; omega), h.1] at h2
    exact k.2 _ v p h1 h2

theorem absC_ok {w0 W : World} {G : List Nat} {ρ : List Pl} {h : List Ent} {sz : Nat} (rel : Rel w0 G ρ h W) : ∀ {xs : List CV} {k : Nat} {ys : List CV} {vs : List View} {us : List Value}, absC sz h k xs = some (ys, vs) → IsL ρ xs us →
    ∃ ps, GoodL W sz vs ps ∧ ∀ pre post : List Pl, pre.length = k → IsL (pre ++ ps ++ post) ys us
  | [], k, ys, vs, us, hx, hu => by
    cases hx
    exact ⟨[], GoodL.nil _ _, fun pre post _ => by
      have : us = [] := by cases us with | nil => rfl | cons u us => simp [IsL] at hu
      subst this
      exact IsL.nil _⟩
  | x :: xs, k, ys, vs, us, hx, hu => by
    cases us with
    | nil => simp [IsL] at hu
    | cons u us =>
      simp only [IsL, List.map_cons, List.cons.injEq] at hu
      rw [absC] at hx
      split at hx
      · rename_i v hv
        split at hx
        · rename_i ys' vs' hr
          cases hx
          obtain ⟨ps, g, hp⟩ := absC_ok rel hr hu.2
          obtain ⟨p, rfl, gp⟩ := viewC_ok rel hv hu.1
          refine ⟨p :: ps, GoodL.cons gp g, fun pre post hk => IsL.cons ?_ ?_⟩
          · have hg : (pre ++ p :: ps ++ post)[k]? = some p := by
              rw [List.append_assoc, List.getElem?_append_right (by omega), hk]
              simp
            obtain ⟨a, cap, hpv, _⟩ := gp.sl
            simp only [CV.den, hg]
            rw [if_pos (by rw [hpv]; rfl)]
          · have := hp (pre ++ [p]) post (by simp [hk])
            simpa using this
        · cases hx
      · split at hx
        · rename_i hpf
          split at hx
          · rename_i ys' vs' hr
            cases hx
            obtain ⟨ps, g, hp⟩ := absC_ok rel hr hu.2
            exact ⟨ps, g, fun pre post hk => IsL.cons ((CV.den_pf hpf _ ρ).trans hu.1) (hp pre post hk)⟩
          · cases hx
        · cases hx

theorem absA_ok {w0 W : World} {G : List Nat} {ρ : List Pl} {h : List Ent} {sz : Nat} (rel : Rel w0 G ρ h W) : ∀ {xs : List SV} {k : Nat} {ys : List SV} {vs : List View} {us : List Value}, absA sz h k xs = some (ys, vs) → IsS ρ xs us →
    ∃ ps, GoodL W sz vs ps ∧ ∀ pre post : List Pl, pre.length = k → IsS (pre ++ ps ++ post) ys us
  | [], k, ys, vs, us, hx, hu => by
    cases hx
    cases hu
    exact ⟨[], GoodL.nil _ _, fun pre post _ => rfl⟩
  | .c x :: xs, k, ys, vs, us, hx, hu => by
    obtain ⟨u, us', rfl, h1, h2⟩ := hu
    rw [absA] at hx
    split at hx
    · rename_i y vs' hr
      split at hx
      · rename_i ys' ws hr2
        cases hx
        obtain ⟨ps, g, hp⟩ := absC_ok rel hr (IsL.cons h1 (IsL.nil _))
        obtain ⟨qs, g2, hq⟩ := absA_ok rel hr2 h2
        refine ⟨ps ++ qs, g.append g2, fun pre post hk => ⟨u, us', rfl, ?_, ?_⟩⟩
        · have := hp pre (qs ++ post) hk
          have e : pre ++ ps ++ (qs ++ post) = pre ++ (ps ++ qs) ++ post := by simp [List.append_assoc]
          rw [e] at this
          simp only [IsL, List.map_cons, List.map_nil, List.cons.injEq] at this
          exact this.1
        · have := hq (pre ++ ps) post (by rw [List.length_append, hk]; exact congrArg (k + ·) g.len)
          simpa [List.append_assoc] using this
      · cases hx
    · cases hx
  | .agg cs :: xs, k, ys, vs, us, hx, hu => by
    obtain ⟨u, us', rfl, ⟨cv, h1, rfl⟩, h2⟩ := hu
    rw [absA] at hx
    split at hx
    · rename_i ds vs' hr
      split at hx
      · rename_i ys' ws hr2
        cases hx
        obtain ⟨ps, g, hp⟩ := absC_ok rel hr h1
        obtain ⟨qs, g2, hq⟩ := absA_ok rel hr2 h2
        refine ⟨ps ++ qs, g.append g2, fun pre post hk => ⟨_, us', rfl, ⟨cv, ?_, rfl⟩, ?_⟩⟩
        · have := hp pre (qs ++ post) hk
          simpa [List.append_assoc] using this
        · have := hq (pre ++ ps) post (by rw [List.length_append, hk]; exact congrArg (k + ·) g.len)
          simpa [List.append_assoc] using this
      · cases hx
    · cases hx
  | .tup _ :: _, _, _, _, _, hx, _ => by simp [absA] at hx
  | .und :: _, _, _, _, _, hx, _ => by simp [absA] at hx
  | .any :: _, _, _, _, _, hx, _ => by simp [absA] at hx

theorem GoodL.rel {W : World} {sz : Nat} {vs : List View} {ps : List Pl} (ty : TypeId) (g : GoodL W sz vs ps) : Rel W [] ps (vs.map (viewE ty sz)) W := by
  have hat : ∀ {k : Nat} {e : Ent} {p : Pl}, (vs.map (viewE ty sz))[k]? = some e → ps[k]? = some p → ∃ v, e = viewE ty sz v ∧ Good W sz v p := fun {k e p} he hp => by
    rw [List.getElem?_map] at he
    cases hv : vs[k]? with
    | none => rw [hv] at he; cases he
    | some v =>
      rw [hv] at he
      cases he
      exact ⟨v, rfl, g.2 k v p hv hp⟩
  have hf : ∀ {k c : Nat}, fp ps (vs.map (viewE ty sz)) k = some c → False := fun {k c} h => by
    obtain ⟨e, p, he, hp, hx⟩ := fp_some h
    obtain ⟨v, rfl, _⟩ := hat he hp
    cases hx
  refine ⟨by rw [List.length_map]; exact g.len, fun k e p he hp => ?_, fun k c h => (hf h).elim, fun j k c h1 h2 => (hf h1).elim, fun _ _ _ => rfl, fun k e p c he hp g1 g2 => ?_, rfl, rfl, rfl, Nat.le_refl _⟩
  · obtain ⟨v, rfl, hg⟩ := hat he hp
    exact ⟨hg.sl, hg.get⟩
  · obtain ⟨v, rfl, hg⟩ := hat he hp
    simp only [viewE, Ent.dep] at g2
    split at g2
    · rename_i hn
      cases g2
      exact ⟨hg.lt hn, by simp⟩
    · cases g2

abbrev SpecR := List SV → List View → Option (Prop × SV)
/-- A function that only reads. -/
structure Rds (P : Program) (f : FuncId) (sz : Nat) (spec : SpecR) : Prop where
  fn : callable P f = true
  run : ∀ args vs pre res, spec args vs = some (pre, res) → pre → ∀ W ps us, GoodL W sz vs ps → IsS ps args us → Calls P f us.toArray W fun e W' => ∃ u, e = .returned u ∧ res.is [] u ∧ Below W.heap.size W W'

noncomputable def appRds (sz : Nat) (spec : SpecR) : App := fun args h =>
  match absA sz h 0 args with
  | some (as, vs) => match spec as vs with
    | some (pre, res) => some ⟨pre, res, h, []⟩
    | none => none
  | none => none

theorem Rds.ct {P : Program} {f : FuncId} {sz : Nat} {spec : SpecR} (m : Rds P f sz spec) : CtOk P f (appRds sz spec) := by
  refine ⟨callable_spec m.fn, fun args hp r hr => ?_, fun args hp r hr hpre ρ W us rel hs => ?_⟩
  · have : r.h = hp ∧ r.ms = [] := by
      unfold appRds at hr
      repeat' split at hr
      all_goals first
        | (cases hr; exact ⟨rfl, rfl⟩)
        | cases hr
    rw [this.1]
    exact ⟨Nat.le_refl _, fun _ _ _ => rfl, fun _ _ h _ => h⟩
  · unfold appRds at hr
    split at hr
    · rename_i as vs ha
      split at hr
      · rename_i pre res hsp
        cases hr
        obtain ⟨ps, g, hq⟩ := absA_ok rel ha hs
        have hi := hq [] [] rfl
        rw [List.nil_append, List.append_nil] at hi
        refine Calls.mono (m.run as vs pre res hsp hpre W ps us g hi) fun e W' he => ?_
        obtain ⟨u, rfl, hu, hbel⟩ := he
        exact ⟨u, [], rfl, by rw [List.append_nil]; simpa using SV.is_app hu ρ, by rw [List.append_nil]; exact rel.belowStep hbel⟩
      · cases hr
    · cases hr

/-- Two ways of saying the same elements. -/
def SameV (vs ws : List View) : Prop := vs.length = ws.length ∧ ∀ (j : Nat) (v w : View), vs[j]? = some v → ws[j]? = some w → v.1 = w.1 ∧ ∀ i, i < v.1 → v.2 i = w.2 i
theorem SameV.refl (vs : List View) : SameV vs vs := ⟨rfl, fun j v w h1 h2 => by rw [h1] at h2; cases h2; exact ⟨rfl, fun _ _ => rfl⟩⟩
theorem SameV.one {n : Nat} {g g' : Nat → List CV} (h : ∀ i, i < n → g i = g' i) : SameV [(n, g)] [(n, g')] := ⟨rfl, fun j v w h1 h2 => by
  cases j with
  | zero => simp at h1 h2; subst h1 h2; exact ⟨rfl, h⟩
  | succ j => simp at h1⟩
theorem SameV.two {n m : Nat} {g g' k k' : Nat → List CV} (h : ∀ i, i < n → g i = g' i) (hk : ∀ i, i < m → k i = k' i) : SameV [(n, g), (m, k)] [(n, g'), (m, k')] := ⟨rfl, fun j v w h1 h2 => by
  match j with
  | 0 => simp at h1 h2; subst h1 h2; exact ⟨rfl, h⟩
  | 1 => simp at h1 h2; subst h1 h2; exact ⟨rfl, hk⟩
  | j + 2 => simp at h1⟩
theorem GoodL.same {W : World} {sz : Nat} {vs ws : List View} {ps : List Pl} (g : GoodL W sz vs ps) (h : SameV vs ws) : GoodL W sz ws ps := by
  refine ⟨by rw [g.1, h.1], fun j w p h1 h2 => ?_⟩
  have hj : j < vs.length := by rw [h.1]; exact (List.getElem?_eq_some_iff.1 h1).1
  obtain ⟨e1, e2⟩ := h.2 j vs[j] w (List.getElem?_eq_getElem hj) h1
  obtain ⟨a, b, c⟩ := g.2 j vs[j] p (List.getElem?_eq_getElem hj) h2
  rw [e1] at a b
  exact ⟨a, b, fun i hi => by rw [← e2 i (by rw [e1]; exact hi)]; exact c i (by rw [e1]; exact hi)⟩

theorem Rds.of {P : Program} {E : Tbl} {C : List (Nat × App)} (M : List Nat) (U : Nat) (R : List (Nat × List (Nat × Bool))) (hE : E.Ok P) (hC : CtsOk P C) (hm : P.follows .mixedOrders = true)
    {f : FuncId} {fn : Func} {c : Code} {n : Nat} {res : List ResultVar} (hf : P.funcs[f]? = some fn) (hb : fn.body = some c) (hn : fn.ntmps = n) (hr : fn.results.toList = res) (hc : codeOk R c = true) (hcall : callable P f = true)
    {sz : Nat} (ty : TypeId) (m : Nat) {spec : SpecR} (hpf : ∀ args vs pre r, spec args vs = some (pre, r) → r.pf = true ∧ vs.length = m)
    (hx : ∀ args vs pre r, spec args vs = some (pre, r) → pre → ∃ ws, SameV vs ws ∧ exec (env (lft P m) U .std E C R) M c ⟨args ++ List.replicate (n - args.length) .und, ws.map (viewE ty sz)⟩ (fin .std E res fun v _ => svSame v r)) : Rds P f sz spec := by
  refine ⟨hcall, fun args vs pre r hs hp W ps us g hus => ?_⟩
  obtain ⟨ws, hw, hx'⟩ := hx args vs pre r hs hp
  have g' := g.same hw
  have hl : (ws.map (viewE ty sz)).length = m := by rw [List.length_map, ← hw.1, (hpf _ _ _ _ hs).2]
  refine Calls.mono (fn_ok (N := env (lft P m) U .std E C R) rfl hE hC hm M hf hb hn hr hc (h := ws.map (viewE ty sz)) (fun c st K _ h => by rw [hl]; exact h) (g'.rel ty) hus _ hx') fun e W' he => ?_
  obtain ⟨v, u, ρ', h', rfl, h1, h2, h3⟩ := he
  exact ⟨u, rfl, SV.is_pf (hpf _ _ _ _ hs).1 (svSame_ok h3 h1) [], h2.toBelow⟩
end Go.Proofs.Ytonkpggnlkkghaa.Vx
