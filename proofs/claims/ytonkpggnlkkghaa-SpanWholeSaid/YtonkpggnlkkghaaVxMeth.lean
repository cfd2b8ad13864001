/- Contracts of methods: on a struct behind a pointer; on a writer. -/
import Derived.Test.YtonkpggnlkkghaaVxUse
namespace Go.Proofs.Ytonkpggnlkkghaa.Vx
open Go.RowKit
set_option linter.unusedVariables false
set_option linter.unusedSimpArgs false

/-- Since W only block g has turned, of what was there. -/
structure Only (G : List Nat) (W W' : World) : Prop where
  os : W'.os = W.os
  tape : W'.tape = W.tape
  output : W'.output = W.output
  size : W.heap.size ≤ W'.heap.size
  block : ∀ i, i < W.heap.size → i ∉ G → W'.heap[i]? = W.heap[i]?

abbrev Spec1 := List CV → List SV → Option (Prop × SV × List CV)

/-- A method on a struct (block g, element type T) that holds no place: what it holds before and behind the call. -/
structure Meth (P : Program) (f : FuncId) (T : TypeId) (spec : Spec1) : Prop where
  fn : callable P f = true
  run : ∀ cs args pre res cs', spec cs args = some (pre, res, cs') → pre → ∀ vs us, IsL [] cs vs → IsS [] args us → ∀ W g, W.heap[g]? = some (.cells vs.toArray T (0, 0)) →
    Calls P f (.pointer (some ⟨g, 0, none⟩) :: us).toArray W fun e W' => ∃ u vs', e = .returned u ∧ res.is [] u ∧ IsL [] cs' vs' ∧ W'.heap[g]? = some (.cells vs'.toArray T (0, 0)) ∧ Only [g] W W'

def appMeth (T : Nat) (spec : Spec1) : App := fun args h =>
  match args with
  | .c (.ptr k 0) :: rest => match h[k]? with
    | some (.cells t cs) => match Nat.beq t T && pfs cs && pfa rest with
      | true => match spec cs rest with
        | some (pre, res, cs') => some ⟨pre, res, h.set k (.cells T cs'), [k]⟩
        | none => none
      | false => none
    | _ => none
  | _ => none

/-- One known block, and what is new, has turned. -/
theorem Rel.onlySet {w0 : World} {G : List Nat} {ρ : List Pl} {h : List Ent} {W W' : World} (r : Rel w0 G ρ h W) {k : Nat} {p : Pl} {ty : TypeId} {cs cs' : List CV} {vs' : List Value}
    (hk : h[k]? = some (.cells ty cs)) (hp : ρ[k]? = some p) (hv : IsL ρ cs' vs') (hb : W'.heap[p.b]? = some (.cells vs'.toArray ty (0, 0))) (ho : Only [p.b] W W') : Rel w0 G ρ (h.set k (.cells ty cs')) W' := by
  have hlt : k < h.length := (List.getElem?_eq_some_iff.1 hk).1
  have hkf : fp ρ h k = some p.b := by rw [fp_mk hk hp]; rfl
  have hget : ∀ j e, (h.set k (.cells ty cs'))[j]? = some e → (j = k ∧ e = .cells ty cs') ∨ (j ≠ k ∧ h[j]? = some e) := fun j e he => by
    by_cases hj : j = k
    · subst hj
      rw [List.getElem?_set_self hlt] at he
      exact Or.inl ⟨rfl, (Option.some.inj he).symm⟩
    · rw [List.getElem?_set_ne (fun e => hj e.symm)] at he
      exact Or.inr ⟨hj, he⟩
  have hfp : ∀ j b, fp ρ (h.set k (.cells ty cs')) j = some b → fp ρ h j = some b := fun j b hf => by
    obtain ⟨e, q, he, hq, hx⟩ := fp_some hf
    rcases hget j e he with ⟨rfl, rfl⟩ | ⟨hj, he'⟩
    · rw [fp_mk hk hq]; exact hx
    · rw [fp_mk he' hq]; exact hx
  refine ⟨by rw [r.len, List.length_set], fun j e q he hq => ?_, fun j b hf => ?_, fun i j b hi hj => r.dis i j b (hfp i b hi) (hfp j b hj), fun i hi hG => ?_, fun j e q b he hq h1 h2 => ?_, ho.os.trans r.os, ho.tape.trans r.tape, ho.output.trans r.output, Nat.le_trans r.size ho.size⟩
  · rcases hget j e he with ⟨rfl, rfl⟩ | ⟨hj, he'⟩
    · rw [hp] at hq
      cases hq
      exact ⟨vs', hv, hb⟩
    · refine Ent.ok_of_block (r.ok j e q he' hq) fun b hb' => ho.block b (r.dep_lt he' hq hb') fun e1 => hj ?_
      simp only [List.mem_singleton] at e1
      subst e1
      rcases dep_fp hb' with h1 | h1
      · exact r.dis j k _ (by rw [fp_mk he' hq]; exact h1) hkf
      · have h3 := r.ro j e q _ he' hq h1 hb'
        rcases (r.own k _ hkf).2 with h4 | h4
        · exact absurd h4 h3.2
        · omega
  · have := r.own j b (hfp j b hf)
    exact ⟨Nat.lt_of_lt_of_le this.1 ho.size, this.2⟩
  · rw [ho.block i (Nat.lt_of_lt_of_le hi r.size) fun e1 => ?_]
    · exact r.kept i hi hG
    · simp only [List.mem_singleton] at e1
      subst e1
      rcases (r.own k _ hkf).2 with h1 | h1
      · exact hG h1
      · omega
  · rcases hget j e he with ⟨rfl, rfl⟩ | ⟨hj, he'⟩
    · cases h1
    · exact r.ro j e q b he' hq h1 h2

theorem Meth.ct {P : Program} {f : FuncId} {T : TypeId} {spec : Spec1} (m : Meth P f T spec) : CtOk P f (appMeth T spec) := by
  have hsp : ∀ args hp r, appMeth T spec args hp = some r → ∃ k rest cs cs', args = .c (.ptr k 0) :: rest ∧ hp[k]? = some (.cells T cs) ∧ pfs cs = true ∧ pfa rest = true ∧ spec cs rest = some (r.pre, r.res, cs') ∧ r.h = hp.set k (.cells T cs') ∧ r.ms = [k] := fun args hp r hr => by
    unfold appMeth at hr
    split at hr
    · rename_i k rest
      split at hr
      · rename_i t cs hk
        split at hr
        · rename_i hb
          simp only [Bool.and_eq_true, Nat.beq_eq] at hb
          obtain ⟨⟨hb1, hb2⟩, hb3⟩ := hb
          subst hb1
          split at hr
          · rename_i pre res cs' hs
            simp only [Option.some.injEq] at hr
            subst hr
            exact ⟨k, rest, cs, cs', rfl, hk, hb2, hb3, hs, rfl, rfl⟩
          · cases hr
        · cases hr
      · cases hr
    · cases hr
  refine ⟨callable_spec m.fn, fun args hp r hr => ?_, fun args hp r hr hpre ρ W us rel hs => ?_⟩
  · obtain ⟨k, rest, cs, cs', rfl, hk, _, _, _, h1, h2⟩ := hsp args hp r hr
    rw [h1, h2]
    refine ⟨by simp, fun j hj hne => ?_, fun j e he hel => ?_⟩
    · rw [List.getElem?_set_ne]
      intro e
      exact hne (by simp [e])
    · by_cases hjk : j = k
      · subst hjk
        rw [List.getElem?_set_self (List.getElem?_eq_some_iff.1 hk).1] at he
        cases he
        cases hel
      · rw [List.getElem?_set_ne (fun e => hjk e.symm)] at he
        exact he
  · obtain ⟨k, rest, cs, cs', rfl, hk, hpf, hpa, hsp1, h1, h2⟩ := hsp args hp r hr
    obtain ⟨u, us', rfl, hu, hus⟩ := hs
    obtain ⟨p, hpk, rfl⟩ := den_ptr hu
    obtain ⟨vs, hv1, hv2⟩ := rel.ok k _ p hk hpk
    refine Calls.mono (m.run cs rest _ _ cs' hsp1 hpre vs us' (isL_pf hpf hv1 []) (isS_pf hpa hus []) W p.b hv2) fun e W' he => ?_
    obtain ⟨u, vs', rfl, hres, hcs', hb, ho⟩ := he
    refine ⟨u, [], rfl, by rw [List.append_nil]; simpa using SV.is_app hres ρ, ?_⟩
    rw [List.append_nil, h1]
    exact rel.onlySet hk hpk (by simpa using hcs'.app_ρ ρ) hb ho

/-- A method that leaves its struct as it is. -/
def appMethR (T : Nat) (spec : Spec1) : App := fun args h =>
  match args with
  | .c (.ptr k 0) :: rest => match h[k]? with
    | some (.cells t cs) => match Nat.beq t T && pfs cs && pfa rest with
      | true => match spec cs rest with
        | some (pre, res, _) => some ⟨pre, res, h, []⟩
        | none => none
      | false => none
    | _ => none
  | _ => none
theorem Meth.ctR {P : Program} {f : FuncId} {T : TypeId} {spec : Spec1} (m : Meth P f T spec) (hkeep : ∀ cs args pre res cs', spec cs args = some (pre, res, cs') → cs' = cs) : CtOk P f (appMethR T spec) := by
  have hsp : ∀ args hp r, appMethR T spec args hp = some r → ∃ k rest cs cs', args = .c (.ptr k 0) :: rest ∧ hp[k]? = some (.cells T cs) ∧ pfs cs = true ∧ pfa rest = true ∧ spec cs rest = some (r.pre, r.res, cs') ∧ r.h = hp ∧ r.ms = [] := fun args hp r hr => by
    unfold appMethR at hr
    split at hr
    · rename_i k rest
      split at hr
      · rename_i t cs hk
        split at hr
        · rename_i hb
          simp only [Bool.and_eq_true, Nat.beq_eq] at hb
          obtain ⟨⟨hb1, hb2⟩, hb3⟩ := hb
          subst hb1
          split at hr
          · rename_i pre res cs' hs
            simp only [Option.some.injEq] at hr
            subst hr
            exact ⟨k, rest, cs, cs', rfl, hk, hb2, hb3, hs, rfl, rfl⟩
          · cases hr
        · cases hr
      · cases hr
    · cases hr
  refine ⟨callable_spec m.fn, fun args hp r hr => ?_, fun args hp r hr hpre ρ W us rel hs => ?_⟩
  · obtain ⟨k, rest, cs, cs', rfl, hk, _, _, _, h1, h2⟩ := hsp args hp r hr
    rw [h1]
    exact ⟨Nat.le_refl _, fun _ _ _ => rfl, fun _ _ h _ => h⟩
  · obtain ⟨k, rest, cs, cs', rfl, hk, hpf, hpa, hsp1, h1, h2⟩ := hsp args hp r hr
    obtain ⟨u, us', rfl, hu, hus⟩ := hs
    obtain ⟨p, hpk, rfl⟩ := den_ptr hu
    obtain ⟨vs, hv1, hv2⟩ := rel.ok k _ p hk hpk
    have hvs := isL_pf hpf hv1 []
    refine Calls.mono (m.run cs rest _ _ cs' hsp1 hpre vs us' hvs (isS_pf hpa hus []) W p.b hv2) fun e W' he => ?_
    obtain ⟨u, vs', rfl, hres, hcs', hb, ho⟩ := he
    refine ⟨u, [], rfl, by rw [List.append_nil]; simpa using SV.is_app hres ρ, ?_⟩
    rw [List.append_nil, h1]
    rw [hkeep _ _ _ _ _ hsp1] at hcs'
    have hsame := hcs'.unique hvs
    subst hsame
    refine rel.belowStep ⟨ho.os, ho.tape, ho.output, ho.size, fun i hi => ?_⟩
    by_cases hi2 : i = p.b
    · subst hi2
      rw [hb, hv2]
    · exact ho.block i hi (by simpa using hi2)

theorem Rel.one {W : World} {g : Nat} {T : TypeId} {cs : List CV} {vs : List Value} (hv : IsL [] cs vs) (hb : W.heap[g]? = some (.cells vs.toArray T (0, 0))) : Rel W [g] [⟨g, undef, 0⟩] [.cells T cs] W := by
  have hg : g < W.heap.size := (Array.getElem?_eq_some_iff.1 hb).1
  have h0 : ∀ {k : Nat} {e : Ent}, [Ent.cells T cs][k]? = some e → k = 0 ∧ e = .cells T cs := fun {k e} h => by
    cases k with
    | zero => simp at h; exact ⟨rfl, h.symm⟩
    | succ k => simp at h
  have hf : ∀ {k b : Nat}, fp [⟨g, undef, 0⟩] [Ent.cells T cs] k = some b → k = 0 ∧ b = g := fun {k b} h => by
    obtain ⟨e, p, he, hp, hx⟩ := fp_some h
    obtain ⟨rfl, rfl⟩ := h0 he
    simp at hp
    subst hp
    simp [Ent.fp] at hx
    exact ⟨rfl, hx.symm⟩
  refine ⟨rfl, fun k e p he hp => ?_, fun k b h => ?_, fun j k b h1 h2 => ?_, fun _ _ _ => rfl, fun k e p b he hp h1 h2 => ?_, rfl, rfl, rfl, Nat.le_refl _⟩
  · obtain ⟨rfl, rfl⟩ := h0 he
    simp at hp
    subst hp
    exact ⟨vs, by simpa using hv.app_ρ [⟨g, undef, 0⟩], hb⟩
  · obtain ⟨rfl, rfl⟩ := hf h
    exact ⟨hg, Or.inl (by simp)⟩
  · rw [(hf h1).1, (hf h2).1]
  · obtain ⟨rfl, rfl⟩ := h0 he
    cases h1

/-- A method out of the walker. -/
theorem Meth.of {P : Program} {E : Tbl} {C : List (Nat × App)} (M : List Nat) (U : Nat) (R : List (Nat × List (Nat × Bool))) (hE : E.Ok P) (hC : CtsOk P C) (hm : P.follows .mixedOrders = true)
    {f : FuncId} {fn : Func} {c : Code} {n : Nat} {res : List ResultVar} (hf : P.funcs[f]? = some fn) (hb : fn.body = some c) (hn : fn.ntmps = n) (hr : fn.results.toList = res) (hc : codeOk R c = true) (hcall : callable P f = true)
    {T : TypeId} {spec : Spec1} (hpf : ∀ cs args pre r cs', spec cs args = some (pre, r, cs') → r.pf = true ∧ pfs cs' = true)
    (hx : ∀ cs args pre r cs', spec cs args = some (pre, r, cs') → pre → exec (env (lft P 1) U .std E C R) M c ⟨(.c (.ptr 0 0) :: args) ++ List.replicate (n - (args.length + 1)) .und, [.cells T cs]⟩ (fin .std E res fun v h => svSame v r ∧ hLe 1 h [.cells T cs'])) : Meth P f T spec := by
  refine ⟨hcall, fun cs args pre r cs' hs hp vs us hvs hus W g hg => ?_⟩
  have hargs : IsS [⟨g, undef, 0⟩] (.c (.ptr 0 0) :: args) (.pointer (some ⟨g, 0, none⟩) :: us) := ⟨_, us, rfl, rfl, by simpa using hus.app_ρ [⟨g, undef, 0⟩]⟩
  refine Calls.mono (fn_ok (N := env (lft P 1) U .std E C R) rfl hE hC hm M hf hb hn hr hc (h := [.cells T cs]) (fun c st K _ h => h) (Rel.one hvs hg) hargs _ (hx cs args pre r cs' hs hp)) fun e W' he => ?_
  obtain ⟨v, u, ρ', h', rfl, h1, h2, h3, h4⟩ := he
  have hk := Rel.take h2 (h' := [.cells T cs']) h4
  simp only [List.length_singleton, List.singleton_append, List.take_succ_cons, List.take_zero] at hk
  obtain ⟨vs', k1, k2⟩ := hk.ok 0 _ ⟨g, undef, 0⟩ rfl rfl
  obtain ⟨p1, p2⟩ := hpf _ _ _ _ _ hs
  exact ⟨u, vs', rfl, SV.is_pf p1 (svSame_ok h3 h1) [], isL_pf p2 k1 [], k2, ⟨hk.os, hk.tape, hk.output, hk.size, fun i hi hne => hk.kept i hi hne⟩⟩

/-- A function that makes one struct and hands out its address. -/
structure Makes (P : Program) (f : FuncId) (T : TypeId) (spec : List SV → Option (Prop × List CV)) : Prop where
  fn : callable P f = true
  run : ∀ args pre cs, spec args = some (pre, cs) → pre → ∀ us, IsS [] args us → ∀ W,
    Calls P f us.toArray W fun e W' => ∃ g vs, e = .returned (.pointer (some ⟨g, 0, none⟩)) ∧ IsL [] cs vs ∧ W'.heap[g]? = some (.cells vs.toArray T (0, 0)) ∧ W.heap.size ≤ g ∧ Below W.heap.size W W'

def appMakes (T : Nat) (spec : List SV → Option (Prop × List CV)) : App := fun args h =>
  match pfa args with
  | true => match spec args with
    | some (pre, cs) => some ⟨pre, .c (.ptr h.length 0), h ++ [.cells T cs], []⟩
    | none => none
  | false => none

theorem Rel.addBlock {w0 : World} {G : List Nat} {ρ : List Pl} {h : List Ent} {W W' : World} (r : Rel w0 G ρ h W) {T : TypeId} {cs : List CV} {vs : List Value} {g : Nat} (hv : IsL ρ cs vs) (hg : W'.heap[g]? = some (.cells vs.toArray T (0, 0)))
    (hnew : W.heap.size ≤ g) (hb : Below W.heap.size W W') : Rel w0 G (ρ ++ [⟨g, undef, 0⟩]) (h ++ [.cells T cs]) W' := by
  have hlt : g < W'.heap.size := (Array.getElem?_eq_some_iff.1 hg).1
  have r' := r.belowStep hb
  have hpl : ∀ j q, (ρ ++ [⟨g, undef, 0⟩])[j]? = some q → (j < h.length → ρ[j]? = some q) ∧ (j = h.length → q = ⟨g, undef, 0⟩) := fun j q hq => by
    rcases getElem?_snoc hq with ⟨h1, h2⟩ | ⟨h1, h2⟩
    · exact ⟨fun _ => h2, fun e => by rw [r.len] at h1; omega⟩
    · exact ⟨fun h3 => by rw [r.len] at h1; omega, fun _ => h2⟩
  have hfp : ∀ j b, fp (ρ ++ [⟨g, undef, 0⟩]) (h ++ [.cells T cs]) j = some b → (j < h.length ∧ fp ρ h j = some b) ∨ (j = h.length ∧ b = g) := fun j b hf => by
    obtain ⟨x, q, hx, hq, hb⟩ := fp_some hf
    rcases getElem?_snoc hx with ⟨h1, h2⟩ | ⟨h1, rfl⟩
    · exact Or.inl ⟨h1, by rw [fp_mk h2 ((hpl j q hq).1 h1)]; exact hb⟩
    · rw [(hpl j q hq).2 h1] at hb
      simp [Ent.fp] at hb
      exact Or.inr ⟨h1, hb.symm⟩
  refine ⟨by simp [r.len], fun j x q hx hq => ?_, fun j b hf => ?_, fun i j b hi hj => ?_, r'.kept, fun j x q b hx hq h1 h2 => ?_, r'.os, r'.tape, r'.output, r'.size⟩
  · rcases getElem?_snoc hx with ⟨h1, h2⟩ | ⟨h1, rfl⟩
    · exact Ent.ok_app (r'.ok j x q h2 ((hpl j q hq).1 h1)) _
    · rw [(hpl j q hq).2 h1]
      exact ⟨vs, hv.app_ρ _, hg⟩
  · rcases hfp j b hf with ⟨h1, h3⟩ | ⟨h1, rfl⟩
    · exact r'.own j b h3
    · exact ⟨hlt, Or.inr (Nat.le_trans r.size hnew)⟩
  · rcases hfp i b hi with ⟨h1, h3⟩ | ⟨h1, h2⟩
    · rcases hfp j b hj with ⟨g1, g3⟩ | ⟨g1, g2⟩
      · exact r.dis i j b h3 g3
      · have := (r.own i b h3).1; omega
    · rcases hfp j b hj with ⟨g1, g3⟩ | ⟨g1, g2⟩
      · have := (r.own j b g3).1; omega
      · omega
  · rcases getElem?_snoc hx with ⟨g1, g2⟩ | ⟨g1, rfl⟩
    · exact r.ro j x q b g2 ((hpl j q hq).1 g1) h1 h2
    · cases h1

theorem Makes.ct {P : Program} {f : FuncId} {T : TypeId} {spec : List SV → Option (Prop × List CV)} (m : Makes P f T spec) : CtOk P f (appMakes T spec) := by
  have hsp : ∀ args hp r, appMakes T spec args hp = some r → ∃ cs, pfa args = true ∧ spec args = some (r.pre, cs) ∧ r.res = .c (.ptr hp.length 0) ∧ r.h = hp ++ [.cells T cs] ∧ r.ms = [] := fun args hp r hr => by
    unfold appMakes at hr
    split at hr
    · split at hr
      · rename_i h1 _ pre cs h2
        simp only [Option.some.injEq] at hr
        subst hr
        exact ⟨cs, h1, h2, rfl, rfl, rfl⟩
      · cases hr
    · cases hr
  refine ⟨callable_spec m.fn, fun args hp r hr => ?_, fun args hp r hr hpre ρ W us rel hs => ?_⟩
  · obtain ⟨cs, _, _, _, h1, h2⟩ := hsp args hp r hr
    rw [h1, h2]
    refine ⟨by simp, fun k hk _ => by rw [List.getElem?_append_left hk], fun j e he hel => ?_⟩
    rcases getElem?_snoc he with ⟨g1, g2⟩ | ⟨g1, rfl⟩
    · exact g2
    · cases hel
  · obtain ⟨cs, h1, h2, h3, h4, _⟩ := hsp args hp r hr
    refine Calls.mono (m.run args r.pre cs h2 hpre us (isS_pf h1 hs []) W) fun e W' he => ?_
    obtain ⟨g, vs, rfl, hv, hg, hnew, hb⟩ := he
    refine ⟨_, [⟨g, undef, 0⟩], rfl, ?_, ?_⟩
    · rw [h3]
      show CV.den _ _ = _
      simp only [CV.den]
      rw [← rel.len, List.getElem?_append_right (Nat.le_refl _)]
      simp
    · rw [h4]
      exact rel.addBlock (by simpa using hv.app_ρ ρ) hg hnew hb

theorem Makes.of {P : Program} {E : Tbl} {C : List (Nat × App)} (M : List Nat) (U : Nat) (R : List (Nat × List (Nat × Bool))) (hE : E.Ok P) (hC : CtsOk P C) (hm : P.follows .mixedOrders = true)
    {f : FuncId} {fn : Func} {c : Code} {n : Nat} {res : List ResultVar} (hf : P.funcs[f]? = some fn) (hb : fn.body = some c) (hn : fn.ntmps = n) (hr : fn.results.toList = res) (hc : codeOk R c = true) (hcall : callable P f = true)
    {T : TypeId} {spec : List SV → Option (Prop × List CV)} (hpf : ∀ args pre cs, spec args = some (pre, cs) → pfs cs = true)
    (hx : ∀ args pre cs, spec args = some (pre, cs) → pre → exec (env (lft P 0) U .std E C R) M c ⟨args ++ List.replicate (n - args.length) .und, []⟩ (fin .std E res fun v h => match v with
      | .c (.ptr k 0) => match h[k]? with
        | some (.cells t ds) => t = T ∧ pfs ds = true ∧ cvsSame ds cs
        | _ => False
      | _ => False)) : Makes P f T spec := by
  refine ⟨hcall, fun args pre cs hs hp us hus W => ?_⟩
  refine Calls.mono (fn_ok (N := env (lft P 0) U .std E C R) rfl hE hC hm M hf hb hn hr hc (h := []) (fun c st K _ h => h) (Rel.refl W) hus _ (hx args pre cs hs hp)) fun e W' he => ?_
  obtain ⟨v, u, ρ', h', rfl, h1, h2, h3⟩ := he
  split at h3
  · rename_i k
    split at h3
    · rename_i t ds hk
      obtain ⟨rfl, g1, g2⟩ := h3
      simp only [List.nil_append] at h1 h2
      obtain ⟨p, hp, rfl⟩ := den_ptr h1
      obtain ⟨vs, hv1, hv2⟩ := h2.ok k _ p hk hp
      have hown := (h2.own k p.b (by rw [fp_mk hk hp]; rfl)).2
      exact ⟨p.b, vs, rfl, isL_pf (hpf _ _ _ hs) (cvsSame_ok g2 hv1) [], hv2, hown.resolve_left (by simp), h2.toBelow⟩
    · exact h3.elim
  · exact h3.elim
end Go.Proofs.Ytonkpggnlkkghaa.Vx
