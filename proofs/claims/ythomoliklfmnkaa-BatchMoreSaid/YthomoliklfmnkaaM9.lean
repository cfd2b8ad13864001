/- Contracts of methods: on a struct behind a pointer; on a writer. -/
import Derived.Test.YthomoliklfmnkaaM8
section
namespace Go.Proofs.Ythomoliklfmnkaa.Vx
open Go.RowKit
set_option linter.unusedVariables false
set_option linter.unusedSimpArgs false

/-- Since W only block g has turned, of what was there. -/
structure Only (G : List Nat) (W W' : World) : Prop where
  os : W'.os = W.os
  tape : W'.tape = W.tape
  output : W'.output = W.output
  size : W.heap.size ≤ W'.heap.size
  block : ∀ i, i < W.heap.size → i ∉ G → W'.heap[i]? = W.heap[i]?

abbrev Spec1 := List CV → List SV → Option (Prop × SV × List CV)

/-- A method on a struct (block g, element type T) that holds no place: what it holds before and behind the call. -/
structure Meth (P : Program) (f : FuncId) (T : TypeId) (spec : Spec1) : Prop where
  fn : callable P f = true
  run : ∀ cs args pre res cs', spec cs args = some (pre, res, cs') → pre → ∀ vs us, IsL [] cs vs → IsS [] args us → ∀ W g, W.heap[g]? = some (.cells vs.toArray T (0, 0)) →
    Calls P f (.pointer (some ⟨g, 0, none⟩) :: us).toArray W fun e W' => ∃ u vs', e = .returned u ∧ res.is [] u ∧ IsL [] cs' vs' ∧ W'.heap[g]? = some (.cells vs'.toArray T (0, 0)) ∧ Only [g] W W'

def appMeth (T : Nat) (spec : Spec1) : App := fun args h =>
  match args with
  | .c (.ptr k 0) :: rest => match h[k]? with
    | some (.cells t cs) => match Nat.beq t T && pfs cs && pfa rest with
      | true => match spec cs rest with
        | some (pre, res, cs') => some ⟨pre, res, h.set k (.cells T cs'), [k]⟩
        | none => none
      | false => none
    | _ => none
  | _ => none

/-- One known block, and what is new, has turned. -/
theorem Rel.onlySet {w0 : World} {G : Gs} {ρ : List Pl} {h : List Ent} {W W' : World} (r : Rel w0 G ρ h W) {k : Nat} {p : Pl} {ty : TypeId} {cs cs' : List CV} {vs' : List Value}
    (hk : h[k]? = some (.cells ty cs)) (hp : ρ[k]? = some p) (hv : IsL ρ cs' vs') (hb : W'.heap[p.b]? = some (.cells vs'.toArray ty (0, 0))) (ho : Only [p.b] W W') : Rel w0 G ρ (h.set k (.cells ty cs')) W' := by
  have hlt : k < h.length := (List.getElem?_eq_some_iff.1 hk).1
  have hkf : fp ρ h k = some p.b := by rw [fp_mk hk hp]; rfl
  have hget : ∀ j e, (h.set k (.cells ty cs'))[j]? = some e → (j = k ∧ e = .cells ty cs') ∨ (j ≠ k ∧ h[j]? = some e) := fun j e he => by
    by_cases hj : j = k
    · subst hj
      rw [List.getElem?_set_self hlt] at he
      exact Or.inl ⟨rfl, (Option.some.inj he).symm⟩
    · rw [List.getElem?_set_ne (fun e => hj e.symm)] at he
      exact Or.inr ⟨hj, he⟩
  have hfp : ∀ j b, fp ρ (h.set k (.cells ty cs')) j = some b → fp ρ h j = some b := fun j b hf => by
    obtain ⟨e, q, he, hq, hx⟩ := fp_some hf
    rcases hget j e he with ⟨rfl, rfl⟩ | ⟨hj, he'⟩
    · rw [fp_mk hk hq]; exact hx
    · rw [fp_mk he' hq]; exact hx
  refine ⟨by rw [r.len, List.length_set], fun j e q he hq => ?_, fun j b hf => ?_, fun i j b hi hj => r.dis i j b (hfp i b hi) (hfp j b hj), fun i hi hG => ?_, fun j e q he hq => ?_, ho.os.trans r.os, ho.tape.trans r.tape, ho.output.trans r.output, Nat.le_trans r.size ho.size⟩
  · rcases hget j e he with ⟨rfl, rfl⟩ | ⟨hj, he'⟩
    · rw [hp] at hq
      cases hq
      exact ⟨vs', hv, hb⟩
    · refine Ent.ok_of_block (r.ok j e q he' hq) fun b hb' => ho.block b (r.dep_lt he' hq hb') fun e1 => hj ?_
      simp only [List.mem_singleton] at e1
      subst e1
      rcases dep_fp hb' with h1 | h1
      · exact r.dis j k _ (by rw [fp_mk he' hq]; exact h1) hkf
      · exact absurd hkf ((r.ro he' hq h1 hb').2.1 k)
  · have := r.own j b (hfp j b hf)
    exact ⟨Nat.lt_of_lt_of_le this.1 ho.size, this.2⟩
  · rw [ho.block i (Nat.lt_of_lt_of_le hi r.size) fun e1 => ?_]
    · exact r.kept i hi hG
    · simp only [List.mem_singleton] at e1
      subst e1
      rcases (r.own k _ hkf).2 with h1 | h1
      · exact hG h1
      · omega
  · rcases hget j e he with ⟨rfl, rfl⟩ | ⟨hj, he'⟩
    · trivial
    · refine Ent.dat_mono (r.dat j e q he' hq) (r.datStep ho.size (fun i b hf => Or.inl ⟨i, hfp i b hf⟩) fun b hb' hn _ => ho.block b hb' fun e1 => ?_) fun b hb' => ho.block b (r.own j b (by rw [fp_mk he' hq]; exact hb')).1 fun e1 => ?_
      · simp only [List.mem_singleton] at e1
        exact hn k (by rw [e1]; exact hkf)
      · simp only [List.mem_singleton] at e1
        exact hj (r.dis j k b (by rw [fp_mk he' hq]; exact hb') (by rw [e1]; exact hkf))

theorem Meth.ct {P : Program} {f : FuncId} {T : TypeId} {spec : Spec1} (m : Meth P f T spec) : CtOk P f (appMeth T spec) := by
  have hsp : ∀ args hp r, appMeth T spec args hp = some r → ∃ k rest cs cs', args = .c (.ptr k 0) :: rest ∧ hp[k]? = some (.cells T cs) ∧ pfs cs = true ∧ pfa rest = true ∧ spec cs rest = some (r.pre, r.res, cs') ∧ r.h = hp.set k (.cells T cs') ∧ r.ms = [k] := fun args hp r hr => by
    unfold appMeth at hr
    split at hr
    · rename_i k rest
      split at hr
      · rename_i t cs hk
        split at hr
        · rename_i hb
          simp only [Bool.and_eq_true, Nat.beq_eq] at hb
          obtain ⟨⟨hb1, hb2⟩, hb3⟩ := hb
          subst hb1
          split at hr
          · rename_i pre res cs' hs
            simp only [Option.some.injEq] at hr
            subst hr
            exact ⟨k, rest, cs, cs', rfl, hk, hb2, hb3, hs, rfl, rfl⟩
          · cases hr
        · cases hr
      · cases hr
    · cases hr
  refine ⟨callable_spec m.fn, fun args hp r hr => ?_, fun args hp r hr hpre w0 G ρ W us rel hs => ?_⟩
  · obtain ⟨k, rest, cs, cs', rfl, hk, _, _, _, h1, h2⟩ := hsp args hp r hr
    rw [h1, h2]
    refine ⟨by simp, fun j hj hne => ?_⟩
    rw [List.getElem?_set_ne]
    intro e
    exact hne (by simp [e])
  · obtain ⟨k, rest, cs, cs', rfl, hk, hpf, hpa, hsp1, h1, h2⟩ := hsp args hp r hr
    obtain ⟨u, us', rfl, hu, hus⟩ := hs
    obtain ⟨p, hpk, rfl⟩ := den_ptr hu
    obtain ⟨vs, hv1, hv2⟩ := rel.ok k _ p hk hpk
    refine Calls.mono (m.run cs rest _ _ cs' hsp1 hpre vs us' (isL_pf hpf hv1 []) (isS_pf hpa hus []) W p.b hv2) fun e W' he => ?_
    obtain ⟨u, vs', rfl, hres, hcs', hb, ho⟩ := he
    refine ⟨u, [], rfl, by rw [List.append_nil]; simpa using SV.is_app hres ρ, ?_⟩
    rw [List.append_nil, h1]
    exact rel.onlySet hk hpk (by simpa using hcs'.app_ρ ρ) hb ho

theorem Rel.one {W : World} {g : Nat} {T : TypeId} {cs : List CV} {vs : List Value} (hv : IsL [] cs vs) (hb : W.heap[g]? = some (.cells vs.toArray T (0, 0))) : Rel W [g] [⟨g, undef, 0⟩] [.cells T cs] W := by
  have hg : g < W.heap.size := (Array.getElem?_eq_some_iff.1 hb).1
  have h0 : ∀ {k : Nat} {e : Ent}, [Ent.cells T cs][k]? = some e → k = 0 ∧ e = .cells T cs := fun {k e} h => by
    cases k with
    | zero => simp at h; exact ⟨rfl, h.symm⟩
    | succ k => simp at h
  have hf : ∀ {k b : Nat}, fp [⟨g, undef, 0⟩] [Ent.cells T cs] k = some b → k = 0 ∧ b = g := fun {k b} h => by
    obtain ⟨e, p, he, hp, hx⟩ := fp_some h
    obtain ⟨rfl, rfl⟩ := h0 he
    simp at hp
    subst hp
    simp [Ent.fp] at hx
    exact ⟨rfl, hx.symm⟩
  refine ⟨rfl, fun k e p he hp => ?_, fun k b h => ?_, fun j k b h1 h2 => ?_, fun _ _ _ => rfl, fun k e p he hp => ?_, rfl, rfl, rfl, Nat.le_refl _⟩
  · obtain ⟨rfl, rfl⟩ := h0 he
    simp at hp
    subst hp
    exact ⟨vs, by simpa using hv.app_ρ [⟨g, undef, 0⟩], hb⟩
  · obtain ⟨rfl, rfl⟩ := hf h
    exact ⟨hg, Or.inl (by simp)⟩
  · rw [(hf h1).1, (hf h2).1]
  · obtain ⟨rfl, rfl⟩ := h0 he
    trivial

/-- A method out of the walker. -/
theorem Meth.of {P : Program} {E : Tbl} {C : List (Nat × App)} (M : List Nat) (U : Nat) (R : List (Nat × List (Nat × Bool))) (hE : E.Ok P) (hC : CtsOk P C) (hm : P.follows .mixedOrders = true)
    {f : FuncId} {fn : Func} {c : Code} {n : Nat} {res : List ResultVar} (hf : P.funcs[f]? = some fn) (hb : fn.body = some c) (hn : fn.ntmps = n) (hr : fn.results.toList = res) (hc : codeOk R c = true) (hcall : callable P f = true)
    {T : TypeId} {spec : Spec1} (hpf : ∀ cs args pre r cs', spec cs args = some (pre, r, cs') → r.pf = true ∧ pfs cs' = true)
    (hx : ∀ cs args pre r cs', spec cs args = some (pre, r, cs') → pre → exec (env (lft P 1) U .std E C R) M c ⟨(.c (.ptr 0 0) :: args) ++ List.replicate (n - (args.length + 1)) .und, [.cells T cs]⟩ (fin .std E res fun v h => svSame v r ∧ hLe 1 h [.cells T cs'])) : Meth P f T spec := by
  refine ⟨hcall, fun cs args pre r cs' hs hp vs us hvs hus W g hg => ?_⟩
  have hargs : IsS [⟨g, undef, 0⟩] (.c (.ptr 0 0) :: args) (.pointer (some ⟨g, 0, none⟩) :: us) := ⟨_, us, rfl, rfl, by simpa using hus.app_ρ [⟨g, undef, 0⟩]⟩
  refine Calls.mono (fn_ok (N := env (lft P 1) U .std E C R) rfl hE hC hm M hf hb hn hr hc (h := [.cells T cs]) (fun c st K _ h => h) (Rel.one hvs hg) hargs _ (hx cs args pre r cs' hs hp)) fun e W' he => ?_
  obtain ⟨v, u, ρ', h', rfl, h1, h2, h3, h4⟩ := he
  have hk := Rel.take h2 (h' := [.cells T cs']) h4
  simp only [List.length_singleton, List.singleton_append, List.take_succ_cons, List.take_zero] at hk
  obtain ⟨vs', k1, k2⟩ := hk.ok 0 _ ⟨g, undef, 0⟩ rfl rfl
  obtain ⟨p1, p2⟩ := hpf _ _ _ _ _ hs
  exact ⟨u, vs', rfl, SV.is_pf p1 (svSame_ok h3 h1) [], isL_pf p2 k1 [], k2, ⟨hk.os, hk.tape, hk.output, hk.size, fun i hi hne => hk.kept i hi hne⟩⟩

/-- A function that makes one struct and hands out its address. -/
structure Makes (P : Program) (f : FuncId) (T : TypeId) (spec : List SV → Option (Prop × List CV)) : Prop where
  fn : callable P f = true
  run : ∀ args pre cs, spec args = some (pre, cs) → pre → ∀ us, IsS [] args us → ∀ W,
    Calls P f us.toArray W fun e W' => ∃ g vs, e = .returned (.pointer (some ⟨g, 0, none⟩)) ∧ IsL [] cs vs ∧ W'.heap[g]? = some (.cells vs.toArray T (0, 0)) ∧ W.heap.size ≤ g ∧ Below W.heap.size W W'

def appMakes (T : Nat) (spec : List SV → Option (Prop × List CV)) : App := fun args h =>
  match pfa args with
  | true => match spec args with
    | some (pre, cs) => some ⟨pre, .c (.ptr h.length 0), h ++ [.cells T cs], []⟩
    | none => none
  | false => none

theorem Rel.addBlock {w0 : World} {G : Gs} {ρ : List Pl} {h : List Ent} {W W' : World} (r : Rel w0 G ρ h W) {T : TypeId} {cs : List CV} {vs : List Value} {g : Nat} (hv : IsL ρ cs vs) (hg : W'.heap[g]? = some (.cells vs.toArray T (0, 0)))
    (hnew : W.heap.size ≤ g) (hb : Below W.heap.size W W') : Rel w0 G (ρ ++ [⟨g, undef, 0⟩]) (h ++ [.cells T cs]) W' := by
  have hlt : g < W'.heap.size := (Array.getElem?_eq_some_iff.1 hg).1
  have r' := r.belowStep hb
  have hpl : ∀ j q, (ρ ++ [⟨g, undef, 0⟩])[j]? = some q → (j < h.length → ρ[j]? = some q) ∧ (j = h.length → q = ⟨g, undef, 0⟩) := fun j q hq => by
    rcases getElem?_snoc hq with ⟨h1, h2⟩ | ⟨h1, h2⟩
    · exact ⟨fun _ => h2, fun e => by rw [r.len] at h1; omega⟩
    · exact ⟨fun h3 => by rw [r.len] at h1; omega, fun _ => h2⟩
  have hfp : ∀ j b, fp (ρ ++ [⟨g, undef, 0⟩]) (h ++ [.cells T cs]) j = some b → (j < h.length ∧ fp ρ h j = some b) ∨ (j = h.length ∧ b = g) := fun j b hf => by
    obtain ⟨x, q, hx, hq, hb⟩ := fp_some hf
    rcases getElem?_snoc hx with ⟨h1, h2⟩ | ⟨h1, rfl⟩
    · exact Or.inl ⟨h1, by rw [fp_mk h2 ((hpl j q hq).1 h1)]; exact hb⟩
    · rw [(hpl j q hq).2 h1] at hb
      simp [Ent.fp] at hb
      exact Or.inr ⟨h1, hb.symm⟩
  refine ⟨by simp [r.len], fun j x q hx hq => ?_, fun j b hf => ?_, fun i j b hi hj => ?_, r'.kept, fun j x q hx hq => ?_, r'.os, r'.tape, r'.output, r'.size⟩
  · rcases getElem?_snoc hx with ⟨h1, h2⟩ | ⟨h1, rfl⟩
    · exact Ent.ok_app (r'.ok j x q h2 ((hpl j q hq).1 h1)) _
    · rw [(hpl j q hq).2 h1]
      exact ⟨vs, hv.app_ρ _, hg⟩
  · rcases hfp j b hf with ⟨h1, h3⟩ | ⟨h1, rfl⟩
    · exact r'.own j b h3
    · exact ⟨hlt, Or.inr (Nat.le_trans r.size hnew)⟩
  · rcases hfp i b hi with ⟨h1, h3⟩ | ⟨h1, h2⟩
    · rcases hfp j b hj with ⟨g1, g3⟩ | ⟨g1, g2⟩
      · exact r.dis i j b h3 g3
      · have := (r.own i b h3).1; omega
    · rcases hfp j b hj with ⟨g1, g3⟩ | ⟨g1, g2⟩
      · have := (r.own j b g3).1; omega
      · omega
  · rcases getElem?_snoc hx with ⟨g1, g2⟩ | ⟨g1, rfl⟩
    · refine Ent.dat_mono (r.dat j x q g2 ((hpl j q hq).1 g1)) (r.datStep hb.size (fun i b hf => ?_) fun b hb' _ _ => hb.block b hb') fun b hb' => hb.block b (r.own j b (by rw [fp_mk g2 ((hpl j q hq).1 g1)]; exact hb')).1
      rcases hfp i b hf with ⟨_, h3⟩ | ⟨_, h3⟩
      · exact Or.inl ⟨i, h3⟩
      · exact Or.inr (by rw [h3]; exact hnew)
    · trivial

theorem Makes.ct {P : Program} {f : FuncId} {T : TypeId} {spec : List SV → Option (Prop × List CV)} (m : Makes P f T spec) : CtOk P f (appMakes T spec) := by
  have hsp : ∀ args hp r, appMakes T spec args hp = some r → ∃ cs, pfa args = true ∧ spec args = some (r.pre, cs) ∧ r.res = .c (.ptr hp.length 0) ∧ r.h = hp ++ [.cells T cs] ∧ r.ms = [] := fun args hp r hr => by
    unfold appMakes at hr
    split at hr
    · split at hr
      · rename_i h1 _ pre cs h2
        simp only [Option.some.injEq] at hr
        subst hr
        exact ⟨cs, h1, h2, rfl, rfl, rfl⟩
      · cases hr
    · cases hr
  refine ⟨callable_spec m.fn, fun args hp r hr => ?_, fun args hp r hr hpre w0 G ρ W us rel hs => ?_⟩
  · obtain ⟨cs, _, _, _, h1, h2⟩ := hsp args hp r hr
    rw [h1, h2]
    exact ⟨by simp, fun k hk _ => by rw [List.getElem?_append_left hk]⟩
  · obtain ⟨cs, h1, h2, h3, h4, _⟩ := hsp args hp r hr
    refine Calls.mono (m.run args r.pre cs h2 hpre us (isS_pf h1 hs []) W) fun e W' he => ?_
    obtain ⟨g, vs, rfl, hv, hg, hnew, hb⟩ := he
    refine ⟨_, [⟨g, undef, 0⟩], rfl, ?_, ?_⟩
    · rw [h3]
      show CV.den _ _ = _
      simp only [CV.den]
      rw [← rel.len, List.getElem?_append_right (Nat.le_refl _)]
      simp
    · rw [h4]
      exact rel.addBlock (by simpa using hv.app_ρ ρ) hg hnew hb

theorem Makes.of {P : Program} {E : Tbl} {C : List (Nat × App)} (M : List Nat) (U : Nat) (R : List (Nat × List (Nat × Bool))) (hE : E.Ok P) (hC : CtsOk P C) (hm : P.follows .mixedOrders = true)
    {f : FuncId} {fn : Func} {c : Code} {n : Nat} {res : List ResultVar} (hf : P.funcs[f]? = some fn) (hb : fn.body = some c) (hn : fn.ntmps = n) (hr : fn.results.toList = res) (hc : codeOk R c = true) (hcall : callable P f = true)
    {T : TypeId} {spec : List SV → Option (Prop × List CV)} (hpf : ∀ args pre cs, spec args = some (pre, cs) → pfs cs = true)
    (hx : ∀ args pre cs, spec args = some (pre, cs) → pre → exec (env (lft P 0) U .std E C R) M c ⟨args ++ List.replicate (n - args.length) .und, []⟩ (fin .std E res fun v h => match v with
      | .c (.ptr k 0) => match h[k]? with
        | some (.cells t ds) => t = T ∧ pfs ds = true ∧ cvsSame ds cs
        | _ => False
      | _ => False)) : Makes P f T spec := by
  refine ⟨hcall, fun args pre cs hs hp us hus W => ?_⟩
  refine Calls.mono (fn_ok (N := env (lft P 0) U .std E C R) rfl hE hC hm M hf hb hn hr hc (h := []) (fun c st K _ h => h) (Rel.refl W) hus _ (hx args pre cs hs hp)) fun e W' he => ?_
  obtain ⟨v, u, ρ', h', rfl, h1, h2, h3⟩ := he
  split at h3
  · rename_i k
    split at h3
    · rename_i t ds hk
      obtain ⟨rfl, g1, g2⟩ := h3
      simp only [List.nil_append] at h1 h2
      obtain ⟨p, hp, rfl⟩ := den_ptr h1
      obtain ⟨vs, hv1, hv2⟩ := h2.ok k _ p hk hp
      have hown := (h2.own k p.b (by rw [fp_mk hk hp]; rfl)).2
      exact ⟨p.b, vs, rfl, isL_pf (hpf _ _ _ hs) (cvsSame_ok g2 hv1) [], hv2, hown.resolve_left (by simp), h2.toBelow⟩
    · exact h3.elim
  · exact h3.elim
end Go.Proofs.Ythomoliklfmnkaa.Vx
end

section
/- Slices that are read: what they hold; how they are handed to a function. -/
namespace Go.Proofs.Ythomoliklfmnkaa.Vx
open Go.RowKit
set_option linter.unusedVariables false
set_option linter.unusedSimpArgs false

/-- n elements of sz cells lie at a, and read as get says. -/
def SlAt (W : World) (a : Option Addr) (sz n : Nat) (get : Nat → List CV) : Prop :=
  ∃ b o, (0 < n → a = some ⟨b, o, none⟩ ∧ b < W.heap.size) ∧ ∀ i, i < n → ∃ vs, IsL [] (get i) vs ∧ ∀ j v, vs[j]? = some v → W.cell? ⟨b, o + i * sz + j, none⟩ = some v

theorem Rel.sl {W : World} {a : Option Addr} {sz n cap : Nat} {get : Nat → List CV} {ty : TypeId} (h : SlAt W a sz n get) (hc : n ≤ cap) : ∃ b o, Rel W (Gs.all []) [⟨b, .slice a n cap, o⟩] [.elems ty sz n get] W := by
  obtain ⟨b, o, h1, h2⟩ := h
  have h0 : ∀ {k : Nat} {e : Ent}, [Ent.elems ty sz n get][k]? = some e → k = 0 ∧ e = .elems ty sz n get := fun {k e} h => by
    cases k with
    | zero => simp at h; exact ⟨rfl, h.symm⟩
    | succ k => simp at h
  have hf : ∀ {k c : Nat}, fp [⟨b, .slice a n cap, o⟩] [Ent.elems ty sz n get] k = some c → False := fun {k c} h => by
    obtain ⟨e, p, he, hp, hx⟩ := fp_some h
    obtain ⟨rfl, rfl⟩ := h0 he
    cases hx
  refine ⟨b, o, rfl, fun k e p he hp => ?_, fun k c h => (hf h).elim, fun j k c h1 h2 => (hf h1).elim, fun _ _ _ => rfl, fun k e p he hp => ?_, rfl, rfl, rfl, Nat.le_refl _⟩
  · obtain ⟨rfl, rfl⟩ := h0 he
    simp at hp
    subst hp
    exact ⟨⟨a, cap, rfl, hc, fun hn => (h1 hn).1⟩, h2⟩
  · obtain ⟨rfl, rfl⟩ := h0 he
    simp at hp
    subst hp
    exact fun hn => Or.inl ⟨(h1 hn).2, by simp, trivial⟩

/-- A function of one slice that only reads. spec: the number of elements, the elements. -/
structure Reads (P : Program) (f : FuncId) (sz : Nat) (spec : Nat → (Nat → List CV) → Option (Prop × SV)) : Prop where
  fn : callable P f = true
  run : ∀ n get pre res, spec n get = some (pre, res) → pre → ∀ W a cap, SlAt W a sz n get → n ≤ cap → Calls P f #[.slice a n cap] W fun e W' => ∃ u, e = .returned u ∧ res.is [] u ∧ Below W.heap.size W W'

/-- A row of cells cut into elements. -/
def cutC (sz : Nat) (cs : List CV) (off : Nat) (i : Nat) : List CV := (cs.drop (off + i * sz)).take sz

noncomputable def appReads (sz : Nat) (spec : Nat → (Nat → List CV) → Option (Prop × SV)) : App := fun args h =>
  match args with
  | [.c (.sl k off len cap)] => match h[k]? with
    | some (.cells t cs) => match pfs cs && Nat.ble (off + len * sz) cs.length && Nat.ble len cap with
      | true => match spec len (cutC sz cs off) with
        | some (pre, res) => some ⟨pre, res, h, []⟩
        | none => none
      | false => none
    | _ => none
  | [.c (.row k)] => match h[k]? with
    | some (.elems t sz' n get) => match Nat.beq sz sz' with
      | true => match spec n get with
        | some (pre, res) => some ⟨pre, res, h, []⟩
        | none => none
      | false => none
    | _ => none
  | _ => none

theorem Reads.ct {P : Program} {f : FuncId} {sz : Nat} {spec : Nat → (Nat → List CV) → Option (Prop × SV)} (m : Reads P f sz spec) : CtOk P f (appReads sz spec) := by
  refine ⟨callable_spec m.fn, fun args hp r hr => ?_, fun args hp r hr hpre w0 G ρ W us rel hs => ?_⟩
  · have : r.h = hp ∧ r.ms = [] := by
      unfold appReads at hr
      repeat' split at hr
      all_goals first
        | (cases hr; exact ⟨rfl, rfl⟩)
        | cases hr
    rw [this.1]
    exact ⟨Nat.le_refl _, fun _ _ _ => rfl⟩
  · unfold appReads at hr
    split at hr
    · rename_i k off len cap
      obtain ⟨u, us', rfl, hu, hnil⟩ := hs
      cases hnil
      obtain ⟨p, hpk, rfl⟩ := den_sl hu
      split at hr
      · rename_i t cs hk
        split at hr
        · rename_i hb
          simp only [Bool.and_eq_true, Nat.ble_eq] at hb
          obtain ⟨hb, hlc⟩ := hb
          split at hr
          · rename_i pre res hsp
            cases hr
            obtain ⟨vs, hv1, hv2⟩ := rel.ok k _ p hk hpk
            have hlt : p.b < W.heap.size := (Array.getElem?_eq_some_iff.1 hv2).1
            refine Calls.mono (m.run len _ pre res hsp hpre W (some ⟨p.b, off, none⟩) cap ⟨p.b, off, fun _ => ⟨rfl, hlt⟩, fun i hi => ⟨_, ((isL_pf hb.1 hv1 []).drop _).take _, fun j v hj => ?_⟩⟩ hlc) fun e W' he => ?_
            · rw [cell_of_row W p.b _ _ t (0, 0) hv2]
              simp only [List.getElem?_take, List.getElem?_drop] at hj
              split at hj
              · simpa using hj
              · cases hj
            · obtain ⟨u, rfl, hu, hbel⟩ := he
              refine ⟨u, [], rfl, by rw [List.append_nil]; simpa using SV.is_app hu ρ, by rw [List.append_nil]; exact rel.belowStep hbel⟩
          · cases hr
        · cases hr
      · cases hr
    · rename_i k
      obtain ⟨u, us', rfl, hu, hnil⟩ := hs
      cases hnil
      obtain ⟨p, hpk, rfl⟩ := den_row hu
      split at hr
      · rename_i t sz' n get hk
        split at hr
        · rename_i hb
          have hsz : sz = sz' := by simpa using hb
          subst hsz
          split at hr
          · rename_i pre res hsp
            cases hr
            obtain ⟨⟨a, cap, hpv, hcap, ha⟩, hget⟩ := rel.ok k _ p hk hpk
            rw [hpv]
            refine Calls.mono (m.run n get pre res hsp hpre W a cap ⟨p.b, p.o, fun hn => ⟨ha hn, (rel.ro hk hpk rfl (by simp [Ent.dep, hn])).1⟩, hget⟩ hcap) fun e W' he => ?_
            obtain ⟨u, rfl, hu, hbel⟩ := he
            exact ⟨u, [], rfl, by rw [List.append_nil]; simpa using SV.is_app hu ρ, by rw [List.append_nil]; exact rel.belowStep hbel⟩
          · cases hr
        · cases hr
      · cases hr
    · cases hr

theorem Reads.of {P : Program} {E : Tbl} {C : List (Nat × App)} (M : List Nat) (U : Nat) (R : List (Nat × List (Nat × Bool))) (hE : E.Ok P) (hC : CtsOk P C) (hm : P.follows .mixedOrders = true)
    {f : FuncId} {fn : Func} {c : Code} {n : Nat} {res : List ResultVar} (hf : P.funcs[f]? = some fn) (hb : fn.body = some c) (hn : fn.ntmps = n) (hr : fn.results.toList = res) (hc : codeOk R c = true) (hcall : callable P f = true)
    {sz : Nat} (ty : TypeId) {spec : Nat → (Nat → List CV) → Option (Prop × SV)} (hpf : ∀ m get pre r, spec m get = some (pre, r) → r.pf = true)
    (hx : ∀ m get pre r, spec m get = some (pre, r) → pre → ∃ get' : Nat → List CV, (∀ i, i < m → get i = get' i) ∧ exec (env (lft P 1) U .std E C R) M c ⟨[.c (.row 0)] ++ List.replicate (n - 1) .und, [.elems ty sz m get']⟩ (fin .std E res fun v _ => svSame v r)) : Reads P f sz spec := by
  refine ⟨hcall, fun m get0 pre r hs hp W a cap hsl0 hcap => ?_⟩
  obtain ⟨get, hget, hx'⟩ := hx m get0 pre r hs hp
  have hsl : SlAt W a sz m get := by
    obtain ⟨b, o, h1, h2⟩ := hsl0
    exact ⟨b, o, h1, fun i hi => by rw [← hget i hi]; exact h2 i hi⟩
  obtain ⟨b, o, hrel⟩ := Rel.sl (cap := cap) (ty := ty) hsl hcap
  have hargs : IsS [⟨b, .slice a m cap, o⟩] [.c (.row 0)] [.slice a m cap] := ⟨_, [], rfl, rfl, rfl⟩
  refine Calls.mono (fn_ok (N := env (lft P 1) U .std E C R) rfl hE hC hm M hf hb hn hr hc (h := [.elems ty sz m get]) (fun c st K _ h => h) hrel hargs _ hx') fun e W' he => ?_
  obtain ⟨v, u, ρ', h', rfl, h1, h2, h3⟩ := he
  exact ⟨u, rfl, SV.is_pf (hpf _ _ _ _ hs) (svSame_ok h3 h1) [], h2.toBelow⟩
end Go.Proofs.Ythomoliklfmnkaa.Vx
end

section
/- Functions that read slices, wherever in their arguments the slices lie. -/
namespace Go.Proofs.Ythomoliklfmnkaa.Vx
open Go.RowKit
set_option linter.unusedVariables false
set_option linter.unusedSimpArgs false

/-- How many elements, and what they are. -/
abbrev View := Nat × (Nat → List CV)
def viewE (ty : TypeId) (sz : Nat) (v : View) : Ent := .elems ty sz v.1 v.2

/-- The elements of a slice. -/
noncomputable def viewC (sz : Nat) (h : List Ent) : CV → Option View
  | .row k => match (h[k]?).bind Ent.view with
    | some (sz', n, get) => match Nat.beq sz sz' with
      | true => some (n, get)
      | false => none
    | none => none
  | .vsl k lo n sz' => match (h[k]?).bind Ent.view with
    | some (sz2, m, get) => match Nat.beq sz sz' && Nat.beq sz sz2 with
      | true => some (n, fun i => get (lo + i))
      | false => none
    | none => none
  | .sl k off len cap => match h[k]? with
    | some (.cells t cs) => match pfs cs && Nat.ble (off + len * sz) cs.length && Nat.ble len cap with
      | true => some (len, cutC sz cs off)
      | false => none
    | _ => none
  | .val (.slice none 0 0) => some (0, fun _ => [])
  | _ => none

/-- A place at which the elements lie. -/
structure Good (W : World) (sz : Nat) (v : View) (p : Pl) : Prop where
  sl : ∃ a cap, p.v = .slice a v.1 cap ∧ v.1 ≤ cap ∧ (0 < v.1 → a = some ⟨p.b, p.o, none⟩)
  lt : 0 < v.1 → p.b < W.heap.size
  get : ∀ i, i < v.1 → ∃ vs, IsL [] (v.2 i) vs ∧ ∀ j w, vs[j]? = some w → W.cell? ⟨p.b, p.o + i * sz + j, none⟩ = some w

theorem view_dep {ρ : List Pl} {en : Ent} {p : Pl} {W : World} {sz n : Nat} {get : Nat → List CV} (hen : en.view = some (sz, n, get)) (h : en.ok ρ p W) (hn : 0 < n) : en.dep p = some p.b := by
  obtain ⟨⟨a, cap, hpv, _, ha⟩, _⟩ := Ent.view_ok hen h
  cases en with
  | elems t sz' n' get' => cases hen; simp [Ent.dep, hn]
  | row t sz' n' get' => cases hen; simp [Ent.dep, hpv, ha hn, Value.ownBlock]
  | bytes t l => cases hen; simp [Ent.dep, hpv, ha hn, Value.ownBlock]
  | cells t cs => cases hen
  | glob g sz n get => cases hen
  | data fr ty sz n get => cases hen
  | orow ty sz n get => cases hen
  | dead => cases hen
  | mp gs l => cases hen
/-- A part of a row is a place at which elements lie. -/
theorem view_sub {w0 W : World} {G : Gs} {ρ : List Pl} {h : List Ent} {sz m lo n m' cap k : Nat} {a : Option Addr} {en : Ent} {get : Nat → List CV} {p : Pl} (hen : en.view = some (sz, m, get)) (rel : Rel w0 G ρ h W) (hk : h[k]? = some en) (hpk : ρ[k]? = some p)
    (hpv : p.v = .slice a m' cap) (hm : lo + n ≤ m') : ∃ q : Pl, q.v = .slice (if cap = lo then a else a.map (·.add (lo * sz))) n (cap - lo) ∧ Good W sz (n, fun i => get (lo + i)) q ∧ q.b = p.b := by
  have hok := rel.ok k _ p hk hpk
  obtain ⟨rfl, hc, ha⟩ := view_part hen hok hpv hm
  obtain ⟨_, hget⟩ := Ent.view_ok hen hok
  refine ⟨⟨p.b, _, p.o + lo * sz⟩, rfl, ⟨⟨_, _, rfl, by show n ≤ cap - lo; omega, ha⟩, fun h0 => rel.dep_lt hk hpk (b := p.b) (view_dep hen hok (by have : 0 < n := h0; omega)), fun i hi => ?_⟩, rfl⟩
  have hi : i < n := hi
  obtain ⟨vs, h1, h2⟩ := hget (lo + i) (by omega)
  refine ⟨vs, h1, fun j w hj => ?_⟩
  have := h2 j w hj
  rw [show p.o + (lo + i) * sz + j = p.o + lo * sz + i * sz + j by rw [Nat.add_mul]; omega] at this
  exact this

theorem viewC_ok {w0 W : World} {G : Gs} {ρ : List Pl} {h : List Ent} {sz : Nat} (rel : Rel w0 G ρ h W) {x : CV} {v : View} {u : Value} (hv : viewC sz h x = some v) (hu : x.den ρ = some u) : ∃ p : Pl, p.v = u ∧ Good W sz v p := by
  unfold viewC at hv
  split at hv
  · rename_i k
    obtain ⟨p, hpk, rfl⟩ := den_row hu
    split at hv
    · rename_i sz' n get hvw
      obtain ⟨en, hk, hen⟩ := Option.bind_eq_some_iff.1 hvw
      split at hv
      · rename_i hb
        have hsz : sz = sz' := by simpa using hb
        subst hsz
        cases hv
        obtain ⟨⟨a, cap, hpv, hcap, ha⟩, hget⟩ := Ent.view_ok hen (rel.ok k _ p hk hpk)
        exact ⟨p, rfl, ⟨a, cap, hpv, hcap, ha⟩, fun hn => rel.dep_lt hk hpk (b := p.b) (view_dep hen (rel.ok k _ p hk hpk) hn), hget⟩
      · cases hv
    · cases hv
  · rename_i k lo n sz'
    obtain ⟨p, a, m', cap, hpk, hpv, hm, rfl⟩ := den_vsl hu
    split at hv
    · rename_i sz2 m get hvw
      obtain ⟨en, hk, hen⟩ := Option.bind_eq_some_iff.1 hvw
      split at hv
      · rename_i hb
        simp only [Bool.and_eq_true, Nat.beq_eq] at hb
        obtain ⟨rfl, rfl⟩ := hb
        cases hv
        obtain ⟨q, h1, h2, _⟩ := view_sub hen rel hk hpk hpv hm
        exact ⟨q, h1, h2⟩
      · cases hv
    · cases hv
  · rename_i k off len cap
    obtain ⟨p, hpk, rfl⟩ := den_sl hu
    split at hv
    · rename_i t cs hk
      split at hv
      · rename_i hb
        simp only [Bool.and_eq_true, Nat.ble_eq] at hb
        obtain ⟨hb, hlc⟩ := hb
        cases hv
        obtain ⟨vs, hv1, hv2⟩ := rel.ok k _ p hk hpk
        have hlt : p.b < W.heap.size := (Array.getElem?_eq_some_iff.1 hv2).1
        refine ⟨⟨p.b, .slice (some ⟨p.b, off, none⟩) len cap, off⟩, rfl, ⟨_, _, rfl, hlc, fun _ => rfl⟩, fun _ => hlt, fun i hi => ⟨_, ((isL_pf hb.1 hv1 []).drop _).take _, fun j w hj => ?_⟩⟩
        rw [cell_of_row W p.b _ _ t (0, 0) hv2]
        simp only [List.getElem?_take, List.getElem?_drop] at hj
        split at hj
        · simpa using hj
        · cases hj
      · cases hv
    · cases hv
  · cases hv
    have : u = .slice none 0 0 := by
      simp only [CV.den, one, if_true] at hu
      exact (Option.some.inj hu).symm
    subst this
    exact ⟨⟨0, .slice none 0 0, 0⟩, rfl, ⟨none, 0, rfl, Nat.le_refl _, fun h => absurd h (by decide)⟩, fun h => absurd h (by decide), fun i hi => absurd hi (by simp)⟩
  · cases hv

/-- Cells with their slices numbered from k on. -/
noncomputable def absC (sz : Nat) (h : List Ent) : Nat → List CV → Option (List CV × List View)
  | _, [] => some ([], [])
  | k, x :: xs => match viewC sz h x with
    | some v => match absC sz h (k + 1) xs with
      | some (ys, vs) => some (.row k :: ys, v :: vs)
      | none => none
    | none => match x.pf with
      | true => match absC sz h k xs with
        | some (ys, vs) => some (x :: ys, vs)
        | none => none
      | false => none
noncomputable def absA (sz : Nat) (h : List Ent) : Nat → List SV → Option (List SV × List View)
  | _, [] => some ([], [])
  | k, .c x :: xs => match absC sz h k [x] with
    | some ([y], vs) => match absA sz h (k + vs.length) xs with
      | some (ys, ws) => some (.c y :: ys, vs ++ ws)
      | none => none
    | _ => none
  | k, .agg cs :: xs => match absC sz h k cs with
    | some (ds, vs) => match absA sz h (k + vs.length) xs with
      | some (ys, ws) => some (.agg ds :: ys, vs ++ ws)
      | none => none
    | none => none
  | _, _ => none

def GoodL (W : World) (sz : Nat) (vs : List View) (ps : List Pl) : Prop := ps.length = vs.length ∧ ∀ (j : Nat) (v : View) (p : Pl), vs[j]? = some v → ps[j]? = some p → Good W sz v p

theorem GoodL.len {W : World} {sz : Nat} {vs : List View} {ps : List Pl} (g : GoodL W sz vs ps) : ps.length = vs.length := g.1
theorem GoodL.nil (W : World) (sz : Nat) : GoodL W sz [] [] := ⟨rfl, fun j v p h => by simp at h⟩
theorem GoodL.cons {W : World} {sz : Nat} {v : View} {p : Pl} {vs : List View} {ps : List Pl} (h : Good W sz v p) (hs : GoodL W sz vs ps) : GoodL W sz (v :: vs) (p :: ps) := by
  refine ⟨by simp [hs.1], fun j v' p' h1 h2 => ?_⟩
  cases j with
  | zero =>
    simp at h1 h2
    subst h1 h2
    exact h
  | succ j => exact hs.2 j v' p' (by simpa using h1) (by simpa using h2)
theorem GoodL.append {W : World} {sz : Nat} {vs ws : List View} {ps qs : List Pl} (h : GoodL W sz vs ps) (k : GoodL W sz ws qs) : GoodL W sz (vs ++ ws) (ps ++ qs) := by
  refine ⟨by simp [h.1, k.1], fun j v p h1 h2 => ?_⟩
  by_cases hj : j < vs.length
  · rw [List.getElem?_append_left hj] at h1
    rw [List.getElem?_append_left (by rw [h.1]; exact hj)] at h2
    exact h.2 j v p h1 h2
  · rw [List.getElem?_append_right (by omega)] at h1
    rw [List.getElem?_append_right (by rw [h.1]; omega), h.1] at h2
    exact k.2 _ v p h1 h2

theorem absC_ok {w0 W : World} {G : Gs} {ρ : List Pl} {h : List Ent} {sz : Nat} (rel : Rel w0 G ρ h W) : ∀ {xs : List CV} {k : Nat} {ys : List CV} {vs : List View} {us : List Value}, absC sz h k xs = some (ys, vs) → IsL ρ xs us →
    ∃ ps, GoodL W sz vs ps ∧ ∀ pre post : List Pl, pre.length = k → IsL (pre ++ ps ++ post) ys us
  | [], k, ys, vs, us, hx, hu => by
    cases hx
    exact ⟨[], GoodL.nil _ _, fun pre post _ => by
      have : us = [] := by cases us with | nil => rfl | cons u us => simp [IsL] at hu
      subst this
      exact IsL.nil _⟩
  | x :: xs, k, ys, vs, us, hx, hu => by
    cases us with
    | nil => simp [IsL] at hu
    | cons u us =>
      simp only [IsL, List.map_cons, List.cons.injEq] at hu
      rw [absC] at hx
      split at hx
      · rename_i v hv
        split at hx
        · rename_i ys' vs' hr
          cases hx
          obtain ⟨ps, g, hp⟩ := absC_ok rel hr hu.2
          obtain ⟨p, rfl, gp⟩ := viewC_ok rel hv hu.1
          refine ⟨p :: ps, GoodL.cons gp g, fun pre post hk => IsL.cons ?_ ?_⟩
          · have hg : (pre ++ p :: ps ++ post)[k]? = some p := by
              rw [List.append_assoc, List.getElem?_append_right (by omega), hk]
              simp
            obtain ⟨a, cap, hpv, _⟩ := gp.sl
            simp only [CV.den, hg]
            rw [if_pos (by rw [hpv]; rfl)]
          · have := hp (pre ++ [p]) post (by simp [hk])
            simpa using this
        · cases hx
      · split at hx
        · rename_i hpf
          split at hx
          · rename_i ys' vs' hr
            cases hx
            obtain ⟨ps, g, hp⟩ := absC_ok rel hr hu.2
            exact ⟨ps, g, fun pre post hk => IsL.cons ((CV.den_pf hpf _ ρ).trans hu.1) (hp pre post hk)⟩
          · cases hx
        · cases hx

theorem absA_ok {w0 W : World} {G : Gs} {ρ : List Pl} {h : List Ent} {sz : Nat} (rel : Rel w0 G ρ h W) : ∀ {xs : List SV} {k : Nat} {ys : List SV} {vs : List View} {us : List Value}, absA sz h k xs = some (ys, vs) → IsS ρ xs us →
    ∃ ps, GoodL W sz vs ps ∧ ∀ pre post : List Pl, pre.length = k → IsS (pre ++ ps ++ post) ys us
  | [], k, ys, vs, us, hx, hu => by
    cases hx
    cases hu
    exact ⟨[], GoodL.nil _ _, fun pre post _ => rfl⟩
  | .c x :: xs, k, ys, vs, us, hx, hu => by
    obtain ⟨u, us', rfl, h1, h2⟩ := hu
    rw [absA] at hx
    split at hx
    · rename_i y vs' hr
      split at hx
      · rename_i ys' ws hr2
        cases hx
        obtain ⟨ps, g, hp⟩ := absC_ok rel hr (IsL.cons h1 (IsL.nil _))
        obtain ⟨qs, g2, hq⟩ := absA_ok rel hr2 h2
        refine ⟨ps ++ qs, g.append g2, fun pre post hk => ⟨u, us', rfl, ?_, ?_⟩⟩
        · have := hp pre (qs ++ post) hk
          have e : pre ++ ps ++ (qs ++ post) = pre ++ (ps ++ qs) ++ post := by simp [List.append_assoc]
          rw [e] at this
          simp only [IsL, List.map_cons, List.map_nil, List.cons.injEq] at this
          exact this.1
        · have := hq (pre ++ ps) post (by rw [List.length_append, hk]; exact congrArg (k + ·) g.len)
          simpa [List.append_assoc] using this
      · cases hx
    · cases hx
  | .agg cs :: xs, k, ys, vs, us, hx, hu => by
    obtain ⟨u, us', rfl, ⟨cv, h1, rfl⟩, h2⟩ := hu
    rw [absA] at hx
    split at hx
    · rename_i ds vs' hr
      split at hx
      · rename_i ys' ws hr2
        cases hx
        obtain ⟨ps, g, hp⟩ := absC_ok rel hr h1
        obtain ⟨qs, g2, hq⟩ := absA_ok rel hr2 h2
        refine ⟨ps ++ qs, g.append g2, fun pre post hk => ⟨_, us', rfl, ⟨cv, ?_, rfl⟩, ?_⟩⟩
        · have := hp pre (qs ++ post) hk
          simpa [List.append_assoc] using this
        · have := hq (pre ++ ps) post (by rw [List.length_append, hk]; exact congrArg (k + ·) g.len)
          simpa [List.append_assoc] using this
      · cases hx
    · cases hx
  | .tup _ :: _, _, _, _, _, hx, _ => by simp [absA] at hx
  | .und :: _, _, _, _, _, hx, _ => by simp [absA] at hx
  | .any :: _, _, _, _, _, hx, _ => by simp [absA] at hx
  | .fn _ _ :: _, _, _, _, _, hx, _ => by simp [absA] at hx

theorem GoodL.rel {W : World} {sz : Nat} {vs : List View} {ps : List Pl} (ty : TypeId) (g : GoodL W sz vs ps) : Rel W (Gs.all []) ps (vs.map (viewE ty sz)) W := by
  have hat : ∀ {k : Nat} {e : Ent} {p : Pl}, (vs.map (viewE ty sz))[k]? = some e → ps[k]? = some p → ∃ v, e = viewE ty sz v ∧ Good W sz v p := fun {k e p} he hp => by
    rw [List.getElem?_map] at he
    cases hv : vs[k]? with
    | none => rw [hv] at he; cases he
    | some v =>
      rw [hv] at he
      cases he
      exact ⟨v, rfl, g.2 k v p hv hp⟩
  have hf : ∀ {k c : Nat}, fp ps (vs.map (viewE ty sz)) k = some c → False := fun {k c} h => by
    obtain ⟨e, p, he, hp, hx⟩ := fp_some h
    obtain ⟨v, rfl, _⟩ := hat he hp
    cases hx
  refine ⟨by rw [List.length_map]; exact g.len, fun k e p he hp => ?_, fun k c h => (hf h).elim, fun j k c h1 h2 => (hf h1).elim, fun _ _ _ => rfl, fun k e p he hp => ?_, rfl, rfl, rfl, Nat.le_refl _⟩
  · obtain ⟨v, rfl, hg⟩ := hat he hp
    exact ⟨hg.sl, hg.get⟩
  · obtain ⟨v, rfl, hg⟩ := hat he hp
    exact fun hn => Or.inl ⟨hg.lt hn, by simp, trivial⟩

abbrev SpecR := List SV → List View → Option (Prop × SV)
/-- A function that only reads. -/
structure Rds (P : Program) (f : FuncId) (sz : Nat) (spec : SpecR) : Prop where
  fn : callable P f = true
  run : ∀ args vs pre res, spec args vs = some (pre, res) → pre → ∀ W ps us, GoodL W sz vs ps → IsS ps args us → Calls P f us.toArray W fun e W' => ∃ u, e = .returned u ∧ res.is [] u ∧ Below W.heap.size W W'

noncomputable def appRds (sz : Nat) (spec : SpecR) : App := fun args h =>
  match absA sz h 0 args with
  | some (as, vs) => match spec as vs with
    | some (pre, res) => some ⟨pre, res, h, []⟩
    | none => none
  | none => none

theorem Rds.ct {P : Program} {f : FuncId} {sz : Nat} {spec : SpecR} (m : Rds P f sz spec) : CtOk P f (appRds sz spec) := by
  refine ⟨callable_spec m.fn, fun args hp r hr => ?_, fun args hp r hr hpre w0 G ρ W us rel hs => ?_⟩
  · have : r.h = hp ∧ r.ms = [] := by
      unfold appRds at hr
      repeat' split at hr
      all_goals first
        | (cases hr; exact ⟨rfl, rfl⟩)
        | cases hr
    rw [this.1]
    exact ⟨Nat.le_refl _, fun _ _ _ => rfl⟩
  · unfold appRds at hr
    split at hr
    · rename_i as vs ha
      split at hr
      · rename_i pre res hsp
        cases hr
        obtain ⟨ps, g, hq⟩ := absA_ok rel ha hs
        have hi := hq [] [] rfl
        rw [List.nil_append, List.append_nil] at hi
        refine Calls.mono (m.run as vs pre res hsp hpre W ps us g hi) fun e W' he => ?_
        obtain ⟨u, rfl, hu, hbel⟩ := he
        exact ⟨u, [], rfl, by rw [List.append_nil]; simpa using SV.is_app hu ρ, by rw [List.append_nil]; exact rel.belowStep hbel⟩
      · cases hr
    · cases hr

/-- Two ways of saying the same elements. -/
def SameV (vs ws : List View) : Prop := vs.length = ws.length ∧ ∀ (j : Nat) (v w : View), vs[j]? = some v → ws[j]? = some w → v.1 = w.1 ∧ ∀ i, i < v.1 → v.2 i = w.2 i
theorem SameV.refl (vs : List View) : SameV vs vs := ⟨rfl, fun j v w h1 h2 => by rw [h1] at h2; cases h2; exact ⟨rfl, fun _ _ => rfl⟩⟩
theorem SameV.one {n : Nat} {g g' : Nat → List CV} (h : ∀ i, i < n → g i = g' i) : SameV [(n, g)] [(n, g')] := ⟨rfl, fun j v w h1 h2 => by
  cases j with
  | zero => simp at h1 h2; subst h1 h2; exact ⟨rfl, h⟩
  | succ j => simp at h1⟩
theorem GoodL.same {W : World} {sz : Nat} {vs ws : List View} {ps : List Pl} (g : GoodL W sz vs ps) (h : SameV vs ws) : GoodL W sz ws ps := by
  refine ⟨by rw [g.1, h.1], fun j w p h1 h2 => ?_⟩
  have hj : j < vs.length := by rw [h.1]; exact (List.getElem?_eq_some_iff.1 h1).1
  obtain ⟨e1, e2⟩ := h.2 j vs[j] w (List.getElem?_eq_getElem hj) h1
  obtain ⟨a, b, c⟩ := g.2 j vs[j] p (List.getElem?_eq_getElem hj) h2
  rw [e1] at a b
  exact ⟨a, b, fun i hi => by rw [← e2 i (by rw [e1]; exact hi)]; exact c i (by rw [e1]; exact hi)⟩

theorem Rds.of {P : Program} {E : Tbl} {C : List (Nat × App)} (M : List Nat) (U : Nat) (R : List (Nat × List (Nat × Bool))) (hE : E.Ok P) (hC : CtsOk P C) (hm : P.follows .mixedOrders = true)
    {f : FuncId} {fn : Func} {c : Code} {n : Nat} {res : List ResultVar} (hf : P.funcs[f]? = some fn) (hb : fn.body = some c) (hn : fn.ntmps = n) (hr : fn.results.toList = res) (hc : codeOk R c = true) (hcall : callable P f = true)
    {sz : Nat} (ty : TypeId) (m : Nat) {spec : SpecR} (hpf : ∀ args vs pre r, spec args vs = some (pre, r) → r.pf = true ∧ vs.length = m)
    (hx : ∀ args vs pre r, spec args vs = some (pre, r) → pre → ∃ ws, SameV vs ws ∧ exec (env (lft P m) U .std E C R) M c ⟨args ++ List.replicate (n - args.length) .und, ws.map (viewE ty sz)⟩ (fin .std E res fun v _ => svSame v r)) : Rds P f sz spec := by
  refine ⟨hcall, fun args vs pre r hs hp W ps us g hus => ?_⟩
  obtain ⟨ws, hw, hx'⟩ := hx args vs pre r hs hp
  have g' := g.same hw
  have hl : (ws.map (viewE ty sz)).length = m := by rw [List.length_map, ← hw.1, (hpf _ _ _ _ hs).2]
  refine Calls.mono (fn_ok (N := env (lft P m) U .std E C R) rfl hE hC hm M hf hb hn hr hc (h := ws.map (viewE ty sz)) (fun c st K _ h => by rw [hl]; exact h) (g'.rel ty) hus _ hx') fun e W' he => ?_
  obtain ⟨v, u, ρ', h', rfl, h1, h2, h3⟩ := he
  exact ⟨u, rfl, SV.is_pf (hpf _ _ _ _ hs).1 (svSame_ok h3 h1) [], h2.toBelow⟩
end Go.Proofs.Ythomoliklfmnkaa.Vx
end

section
/- A loop whose round leaves the entries at other numbers. -/
namespace Go.Proofs.Ythomoliklfmnkaa.Vx
open Go.RowKit
set_option linter.unusedVariables false
set_option linter.unusedSimpArgs false

def renC (σ : List Nat) : CV → CV
  | .ptr k o => .ptr (σ.getD k 0) o
  | .row k => .row (σ.getD k 0)
  | .sl k a b c => .sl (σ.getD k 0) a b c
  | .eptr k i s o => .eptr (σ.getD k 0) i s o
  | .aptr k i s o => .aptr (σ.getD k 0) i s o
  | .vsl k i s o => .vsl (σ.getD k 0) i s o
  | x => x
def renL (σ : List Nat) : List CV → List CV
  | [] => []
  | x :: xs => renC σ x :: renL σ xs
def renS (σ : List Nat) : SV → SV
  | .c x => .c (renC σ x)
  | .agg cs => .agg (renL σ cs)
  | .fn f cs => .fn f (renL σ cs)
  | x => x
def pick (σ : List Nat) (ρ : List Pl) : List Pl := σ.map fun k => ρ.getD k ⟨0, undef, 0⟩

theorem pick_get {σ : List Nat} {ρ : List Pl} {k i : Nat} {p : Pl} (hk : σ[k]? = some i) (hp : ρ[i]? = some p) : (pick σ ρ)[k]? = some p := by
  unfold pick
  rw [List.getElem?_map, hk]
  simp [List.getD, hp]
theorem getD_of {σ : List Nat} {k : Nat} (h : Nat.blt k σ.length = true) : σ[k]? = some (σ.getD k 0) := by
  have h : k < σ.length := by simpa [Nat.blt_eq] using h
  simp [List.getD, h]
theorem den_pick {ρ : List Pl} {σ : List Nat} {x : CV} {u : Value} (hs : cvSc σ.length x = true) (h : (renC σ x).den ρ = some u) : x.den (pick σ ρ) = some u := by
  cases x with
  | ptr k off =>
    simp only [renC, CV.den] at h ⊢
    cases hk : ρ[σ.getD k 0]? with
    | none => rw [hk] at h; cases h
    | some p => rw [hk] at h; rw [pick_get (getD_of hs) hk]; exact h
  | row k =>
    simp only [renC, CV.den] at h ⊢
    cases hk : ρ[σ.getD k 0]? with
    | none => rw [hk] at h; cases h
    | some p => rw [hk] at h; rw [pick_get (getD_of hs) hk]; exact h
  | sl k off len cap =>
    simp only [renC, CV.den] at h ⊢
    cases hk : ρ[σ.getD k 0]? with
    | none => rw [hk] at h; cases h
    | some p => rw [hk] at h; rw [pick_get (getD_of hs) hk]; exact h
  | eptr k i sz off =>
    simp only [renC, CV.den] at h ⊢
    cases hk : ρ[σ.getD k 0]? with
    | none => rw [hk] at h; cases h
    | some p => rw [hk] at h; rw [pick_get (getD_of hs) hk]; exact h
  | aptr k i off m =>
    simp only [renC, CV.den] at h ⊢
    cases hk : ρ[σ.getD k 0]? with
    | none => rw [hk] at h; cases h
    | some p => rw [hk] at h; rw [pick_get (getD_of hs) hk]; exact h
  | vsl k i off m =>
    simp only [renC, CV.den] at h ⊢
    cases hk : ρ[σ.getD k 0]? with
    | none => rw [hk] at h; cases h
    | some p => rw [hk] at h; rw [pick_get (getD_of hs) hk]; exact h
  | _ => exact h
theorem isL_pick {ρ : List Pl} {σ : List Nat} : ∀ {xs : List CV} {us : List Value}, cvsSc σ.length xs = true → IsL ρ (renL σ xs) us → IsL (pick σ ρ) xs us
  | [], us, _, k => k
  | x :: xs, us, hs, k => by
    simp only [cvsSc] at hs
    split at hs
    · rename_i hx
      cases us with
      | nil => simp [IsL, renL] at k
      | cons u us =>
        simp only [IsL, renL, List.map_cons, List.cons.injEq] at k
        exact IsL.cons (den_pick hx k.1) (isL_pick hs k.2)
    · cases hs
theorem sv_pick {ρ : List Pl} {σ : List Nat} {x y : SV} {u : Value} (hs : svSc σ.length y = true) (hl : svLe x (renS σ y)) (h : x.is ρ u) : y.is (pick σ ρ) u := by
  have key : svSame x (renS σ y) → y.is (pick σ ρ) u := fun hsame => by
    have h2 := svSame_ok hsame h
    cases y with
    | c y => exact den_pick hs h2
    | agg cs => obtain ⟨vs, g1, g2⟩ := h2; exact ⟨vs, isL_pick hs g1, g2⟩
    | tup vs => cases hs
    | und => exact h2
    | any => trivial
    | fn f cs => obtain ⟨vs, g1, g2⟩ := h2; exact ⟨vs, isL_pick hs g1, g2⟩
  cases y with
  | any => trivial
  | und =>
    cases x <;> first | exact h | exact hl.elim
  | c y => exact key (by cases x <;> first | exact hl | exact hl.elim)
  | agg cs => exact key (by cases x <;> first | exact hl | exact hl.elim)
  | fn f cs => exact key (by cases x <;> first | exact hl | exact hl.elim)
  | tup vs => cases hs
def tLeR (σ : List Nat) : List SV → List SV → Prop
  | [], [] => True
  | x :: xs, y :: ys => svSc σ.length y = true ∧ svLe x (renS σ y) ∧ tLeR σ xs ys
  | _, _ => False
theorem t_pick {ρ : List Pl} {σ : List Nat} : ∀ {xs ys : List SV} {us : List Value}, tLeR σ xs ys → IsS ρ xs us → IsS (pick σ ρ) ys us
  | [], [], us, _, k => k
  | x :: xs, y :: ys, us, h, k => by
    obtain ⟨u, us', rfl, h1, h2⟩ := k
    exact ⟨u, us', rfl, sv_pick h.1 h.2.1 h1, t_pick h.2.2 h2⟩
  | [], _ :: _, _, h, _ => h.elim
  | _ :: _, [], _, h, _ => h.elim
def entLeR (σ : List Nat) : Ent → Ent → Prop
  | _, .dead => True
  | .data fr t s m g, .data fr' t' s' m' g' => fr = fr' ∧ t = t' ∧ s = s' ∧ m = m' ∧ (∀ i j, i < m' → j < s' → Cell.le (g i j) (g' i j))
  | .orow t s m g, .orow t' s' m' g' => t = t' ∧ s = s' ∧ m = m' ∧ (∀ i j, i < m' → j < s' → Cell.le (g i j) (g' i j))
  | .cells t cs, .cells t' cs' => t = t' ∧ cvsSc σ.length cs' = true ∧ cvsSame cs (renL σ cs')
  | .bytes e l, .bytes e' l' => e = e' ∧ l = l'
  | .row e s m g, .row e' s' m' g' => e = e' ∧ s = s' ∧ m = m' ∧ (∀ i, i < m' → g i = g' i)
  | .elems t s m g, .elems t' s' m' g' => t = t' ∧ s = s' ∧ m = m' ∧ g = g'
  | .glob t s m g, .glob t' s' m' g' => t = t' ∧ s = s' ∧ m = m' ∧ g = g'
  | .mp g l, .mp g' l' => g = g' ∧ l = l'
  | _, _ => False
theorem entLeR_ok {ρ : List Pl} {σ : List Nat} {x y : Ent} {p : Pl} {W : World} (h : entLeR σ x y) (k : x.ok ρ p W) : y.ok (pick σ ρ) p W ∧ (∀ b, y.fp p = some b → x.fp p = some b) := by
  unfold entLeR at h
  split at h
  · exact ⟨trivial, (fun _ h => by cases h)⟩
  · obtain ⟨rfl, rfl, rfl, rfl, h4⟩ := h
    exact ⟨k, fun _ h => h⟩
  · obtain ⟨rfl, rfl, rfl, h4⟩ := h
    exact ⟨k, fun _ h => h⟩
  · obtain ⟨rfl, h2, h3⟩ := h
    obtain ⟨vs, g1, g2⟩ := k
    exact ⟨⟨vs, isL_pick h2 (cvsSame_ok h3 g1), g2⟩, fun _ h => h⟩
  · obtain ⟨rfl, rfl⟩ := h
    exact ⟨k, fun _ h => h⟩
  · obtain ⟨rfl, rfl, rfl, h4⟩ := h
    exact ⟨Ent.row_same h4 k, fun _ h => h⟩
  · obtain ⟨rfl, rfl, rfl, rfl⟩ := h
    exact ⟨k, fun _ h => h⟩
  · obtain ⟨rfl, rfl, rfl, rfl⟩ := h
    exact ⟨k, fun _ h => h⟩
  · obtain ⟨rfl, rfl⟩ := h
    exact ⟨k, fun _ h => h⟩
  · exact h.elim
theorem entLeR_dat {σ : List Nat} {x y : Ent} {p : Pl} {W : World} {D : Bool → Nat → Prop} (h : entLeR σ x y) (k : x.dat W D p) : y.dat W D p := by
  unfold entLeR at h
  split at h
  · trivial
  · obtain ⟨rfl, rfl, rfl, rfl, h4⟩ := h
    exact Ent.dat_data_le h4 k
  · obtain ⟨rfl, rfl, rfl, h4⟩ := h
    exact Ent.dat_orow_le h4 k
  · trivial
  · trivial
  · trivial
  · obtain ⟨rfl, rfl, rfl, rfl⟩ := h
    exact k
  · obtain ⟨rfl, rfl, rfl, rfl⟩ := h
    exact k
  · obtain ⟨rfl, rfl⟩ := h
    exact k
  · exact h.elim
def hLeR (σ : List Nat) (h : List Ent) : List Nat → List Ent → Prop
  | [], [] => True
  | k :: ks, y :: ys => (match h[k]? with
    | some x => entLeR σ x y
    | none => False) ∧ hLeR σ h ks ys
  | _, _ => False
theorem hLeR_get {σ : List Nat} {h : List Ent} : ∀ {ks : List Nat} {ys : List Ent}, hLeR σ h ks ys → ys.length = ks.length ∧ ∀ (k : Nat) (y : Ent), ys[k]? = some y → ∃ i x, ks[k]? = some i ∧ h[i]? = some x ∧ entLeR σ x y
  | [], [], _ => ⟨rfl, fun k y h => by simp at h⟩
  | i :: ks, y :: ys, hl => by
    have ih := hLeR_get hl.2
    refine ⟨by simpa using ih.1, fun k z hz => ?_⟩
    cases k with
    | zero =>
      simp at hz
      subst hz
      have h1 := hl.1
      split at h1
      · rename_i x hx
        exact ⟨i, x, rfl, hx, h1⟩
      · exact h1.elim
    | succ k => simpa using ih.2 k z (by simpa using hz)
  | [], _ :: _, hl => hl.elim
  | _ :: _, [], hl => hl.elim

theorem Rel.pick {w0 : World} {G : Gs} {ρ : List Pl} {h h' : List Ent} {σ : List Nat} {W : World} (r : Rel w0 G ρ h W) (hl : hLeR σ h σ h') (hd : σ.Nodup) : Rel w0 G (pick σ ρ) h' W := by
  obtain ⟨hn, hg⟩ := hLeR_get hl
  have hpl : ∀ {k i : Nat} {p : Pl} {x : Ent}, σ[k]? = some i → h[i]? = some x → (Vx.pick σ ρ)[k]? = some p → ρ[i]? = some p := fun {k i p x} hk hx hp => by
    have hi : i < ρ.length := by rw [r.len]; exact (List.getElem?_eq_some_iff.1 hx).1
    have := pick_get hk (List.getElem?_eq_getElem hi)
    rw [this] at hp
    rw [List.getElem?_eq_getElem hi]
    exact hp
  have hfp : ∀ k b, fp (Vx.pick σ ρ) h' k = some b → ∃ i, σ[k]? = some i ∧ fp ρ h i = some b := fun k b hf => by
    obtain ⟨e, p, he, hp, hx⟩ := fp_some hf
    obtain ⟨i, x, h0, h1, h2⟩ := hg k e he
    refine ⟨i, h0, ?_⟩
    rw [fp_mk h1 (hpl h0 h1 hp)]
    exact (entLeR_ok h2 (r.ok i x p h1 (hpl h0 h1 hp))).2 b hx
  refine ⟨by simp [Vx.pick, hn], fun k e p he hp => ?_, fun k b hf => ?_, fun j k b hj hk => ?_, r.kept, fun k e p he hp => ?_, r.os, r.tape, r.output, r.size⟩
  · obtain ⟨i, x, g0, g1, g2⟩ := hg k e he
    exact (entLeR_ok g2 (r.ok i x p g1 (hpl g0 g1 hp))).1
  · obtain ⟨i, _, hi⟩ := hfp k b hf
    exact r.own i b hi
  · obtain ⟨i, a1, a2⟩ := hfp j b hj
    obtain ⟨i', b1, b2⟩ := hfp k b hk
    have := r.dis i i' b a2 b2
    subst this
    have hj' := (List.getElem?_eq_some_iff.1 a1)
    have hk' := (List.getElem?_eq_some_iff.1 b1)
    obtain ⟨x1, x2⟩ := hj'
    obtain ⟨y1, y2⟩ := hk'
    rcases Nat.lt_trichotomy j k with hlt | heq | hlt
    · exact absurd (x2.trans y2.symm) (List.pairwise_iff_getElem.1 hd j k x1 y1 hlt)
    · exact heq
    · exact absurd (y2.trans x2.symm) (List.pairwise_iff_getElem.1 hd k j y1 x1 hlt)
  · obtain ⟨i, x, g0, g1, g2⟩ := hg k e he
    exact entLeR_dat g2 (Ent.dat_mono (r.dat i x p g1 (hpl g0 g1 hp)) (r.datStep (Nat.le_refl _) (fun j b hf => Or.inl (by obtain ⟨i, _, hi⟩ := hfp j b hf; exact ⟨i, hi⟩)) fun _ _ _ _ => rfl) fun _ _ => rfl)

theorem pick_split {σ : List Nat} {a b : List Pl} {m : Nat} (ha : a.length = m) (h : σ.take m = List.range m) : ∃ c, pick σ (a ++ b) = a ++ c := by
  refine ⟨pick (σ.drop m) (a ++ b), ?_⟩
  have e : pick σ (a ++ b) = pick (σ.take m) (a ++ b) ++ pick (σ.drop m) (a ++ b) := by
    unfold pick
    rw [← List.map_append, List.take_append_drop]
  rw [e, h]
  congr 1
  apply List.ext_getElem
  · simp [pick, ha]
  · intro i h1 h2
    simp [pick, List.getD, h2]
    rw [List.getElem?_append_left h2, List.getElem?_eq_getElem h2]
    rfl

/-- After a round the state is S y, but for the numbers of the entries. -/
structure StLeR (σ : List Nat) (m : Nat) (st s : St) : Prop where
  m : σ.take m = List.range m
  d : σ.Nodup
  t : tLeR σ st.t s.t
  h : hLeR σ st.h σ s.h

theorem loop_ruleR {P : Program} {N : Env} (hA : N.A = .std) (hE : N.E.Ok P) (hC : CtsOk P N.C) {m : Nat} (hL : ∀ c st K, codeOk N.R c = true → N.L c st K → Runs P m (.loop c) st K) (hm : P.follows .mixedOrders = true) (M : List Nat)
    {c : Code} {st : St} {K : Ex → St → Prop} {X : Type} (S : X → St) (μ : X → Nat) (x0 : X) (hc : codeOk N.R c = true) (σ0 : List Nat) (h0 : StLeR σ0 m st (S x0))
    (round : ∀ x, exec N M c (S x) fun e st' => match e with
      | .normal => ∃ y σ, μ y < μ x ∧ StLeR σ m st' (S y)
      | e => K e st') : Runs P m (.loop c) st K := by
  refine ⟨fun w0 G ρb ρ1 a W hρ r hs hd => ?_⟩
  refine wp_loop_ghost (fun n a W => ∃ x ρ', μ x = n ∧ Rel w0 G (ρb ++ ρ') (S x).h W ∧ IsS (ρb ++ ρ') (S x).t a.tmps.toList ∧ a.defers = []) (μ x0) ?_ ?_
  · obtain ⟨c1, hc1⟩ := pick_split (b := ρ1) hρ h0.m
    exact ⟨x0, c1, rfl, by rw [← hc1]; exact r.pick h0.h h0.d, by rw [← hc1]; exact t_pick h0.t hs, hd⟩
  · rintro n a W ⟨x, ρ', rfl, r', hs', hd'⟩
    refine Code.wp_mono (fun e a W hq => ?_) ((exec_ok hA hE hC hL hm M c _ _ hc (round x)).run w0 G ρb ρ' a W hρ r' hs' hd')
    obtain ⟨ex, st', ρ2, he, r2, hs2, hd2, hk⟩ := hq
    cases ex with
    | normal =>
      cases e <;> try exact (show False from he).elim
      obtain ⟨y, σ, hy, hle⟩ := hk
      obtain ⟨c1, hc1⟩ := pick_split (b := ρ2) hρ hle.m
      exact ⟨μ y, hy, y, c1, rfl, by rw [← hc1]; exact r2.pick hle.h hle.d, by rw [← hc1]; exact t_pick hle.t hs2, hd2⟩
    | exit i =>
      cases e <;> try exact (show False from he).elim
      exact ⟨.exit i, st', ρ2, he, r2, hs2, hd2, hk⟩
    | ret =>
      cases e <;> try exact (show False from he).elim
      exact ⟨.ret, st', ρ2, he, r2, hs2, hd2, hk⟩
end Go.Proofs.Ythomoliklfmnkaa.Vx
end

section
/- A nil slice as a row without elements; functions that read slices and hand out what they made. -/
namespace Go.Proofs.Ythomoliklfmnkaa.Vx
open Go.RowKit
set_option linter.unusedVariables false
set_option linter.unusedSimpArgs false

/-- A row without elements is there at any time. -/
theorem Rel.addNil {w0 : World} {G : Gs} {ρ : List Pl} {h : List Ent} {W : World} (r : Rel w0 G ρ h W) (e : TypeId) (sz : Nat) (g : Nat → List CV) : Rel w0 G (ρ ++ [⟨0, .slice none 0 0, 0⟩]) (h ++ [.row e sz 0 g]) W :=
  r.bornE (en := .row e sz 0 g) (q0 := ⟨0, .slice none 0 0, 0⟩) ⟨[], ⟨fun i hi => absurd hi (by simp), rfl, fun b hb => by simp [Value.ownBlock] at hb⟩, World.ownsRow_nil W 0 e sz⟩ rfl (fun b hb => by simp [Ent.fp, Value.ownBlock] at hb)
    ⟨rfl, rfl, rfl, Nat.le_refl _, fun _ _ _ => rfl⟩ (fun b hb => by simp [Ent.fp, Value.ownBlock] at hb)

/-- The same cells in other words. -/
theorem Rel.recell {w0 : World} {G : Gs} {ρ : List Pl} {h : List Ent} {W : World} (r : Rel w0 G ρ h W) {i : Nat} {t : TypeId} {cs cs' : List CV} (hi : h[i]? = some (.cells t cs)) (hc : ∀ vs, IsL ρ cs vs → IsL ρ cs' vs) : Rel w0 G ρ (h.set i (.cells t cs')) W := by
  have hlt : i < h.length := (List.getElem?_eq_some_iff.1 hi).1
  have hget : ∀ j e, (h.set i (.cells t cs'))[j]? = some e → (j = i ∧ e = .cells t cs') ∨ (j ≠ i ∧ h[j]? = some e) := fun j e he => by
    by_cases hj : j = i
    · subst hj
      rw [List.getElem?_set_self hlt] at he
      exact Or.inl ⟨rfl, (Option.some.inj he).symm⟩
    · rw [List.getElem?_set_ne (fun e => hj e.symm)] at he
      exact Or.inr ⟨hj, he⟩
  have hfp : ∀ j b, fp ρ (h.set i (.cells t cs')) j = some b → fp ρ h j = some b := fun j b hf => by
    obtain ⟨e, q, he, hq, hx⟩ := fp_some hf
    rcases hget j e he with ⟨rfl, rfl⟩ | ⟨hj, he'⟩
    · rw [fp_mk hi hq]; exact hx
    · rw [fp_mk he' hq]; exact hx
  refine ⟨by rw [List.length_set]; exact r.len, fun j e q he hq => ?_, fun j b hf => r.own j b (hfp j b hf), fun j k b h1 h2 => r.dis j k b (hfp j b h1) (hfp k b h2), r.kept, fun j e q he hq => ?_, r.os, r.tape, r.output, r.size⟩
  · rcases hget j e he with ⟨rfl, rfl⟩ | ⟨hj, he'⟩
    · obtain ⟨vs, h1, h2⟩ := r.ok j _ q hi hq
      exact ⟨vs, hc vs h1, h2⟩
    · exact r.ok j e q he' hq
  · rcases hget j e he with ⟨rfl, rfl⟩ | ⟨hj, he'⟩
    · trivial
    · exact Ent.dat_mono (r.dat j e q he' hq) (r.datStep (Nat.le_refl _) (fun j b hf => Or.inl ⟨j, hfp j b hf⟩) fun _ _ _ _ => rfl) fun _ _ => rfl

/-- Slices without elements, in whatever words. -/
def isNilE : Ent → Bool
  | .row _ _ 0 _ => true
  | .orow _ _ 0 _ => true
  | .data _ _ _ 0 _ => true
  | .elems _ _ 0 _ => true
  | _ => false
theorem Rel.addNilE {w0 : World} {G : Gs} {ρ : List Pl} {h : List Ent} {W : World} (r : Rel w0 G ρ h W) (en : Ent) (hen : isNilE en = true) : Rel w0 G (ρ ++ [⟨0, .slice none 0 0, 0⟩]) (h ++ [en]) W := by
  unfold isNilE at hen
  split at hen
  · exact r.addNil _ _ _
  · rename_i e sz g
    exact r.bornE (en := .orow e sz 0 g) (q0 := ⟨0, .slice none 0 0, 0⟩) ⟨⟨none, 0, rfl, Nat.le_refl _, fun h => absurd h (by simp)⟩, rfl, fun b hb => by simp [Value.ownBlock] at hb⟩ rfl (fun b hb => by simp [Ent.fp, Value.ownBlock] at hb)
      (grownBy_refl W) (fun b hb => by simp [Ent.fp, Value.ownBlock] at hb) (fun _ => ⟨[], World.ownsRow_nil W 0 e sz, fun i j hi _ => absurd hi (by simp)⟩)
  · rename_i fr ty sz g
    exact r.addS (en := .data fr ty sz 0 g) (q := ⟨0, .slice none 0 0, 0⟩) rfl ⟨none, 0, rfl, Nat.le_refl _, fun h => absurd h (by simp)⟩ fun _ => ⟨none, 0, rfl, Nat.le_refl _, fun h => absurd h (by simp)⟩
  · rename_i ty sz g
    exact r.addS (en := .elems ty sz 0 g) (q := ⟨0, .slice none 0 0, 0⟩) rfl ⟨⟨none, 0, rfl, Nat.le_refl _, fun h => absurd h (by simp)⟩, fun i hi => absurd hi (by simp)⟩ fun _ h => absurd h (by simp)
  · cases hen

theorem isL_nil {ρ : List Pl} {cs : List CV} {j : Nat} {vs : List Value} (hj : cs[j]? = some (.val (.slice none 0 0))) (h : IsL ρ cs vs) {k : Nat} (hk : ρ[k]? = some ⟨0, .slice none 0 0, 0⟩) : IsL ρ (cs.set j (.row k)) vs := by
  obtain ⟨u, hu1, hu2⟩ := h.get hj
  have hu : u = .slice none 0 0 := by
    simp only [CV.den, one, if_true] at hu2
    exact (Option.some.inj hu2).symm
  have h2 := h.set j (x := .row k) (u := u) (by
    simp only [CV.den, hk, one, if_true]
    rw [hu])
  have e : vs.set j u = vs := by
    obtain ⟨hlt, hg⟩ := List.getElem?_eq_some_iff.1 hu1
    rw [← hg, List.set_getElem_self]
  rw [e] at h2
  exact h2

/-- In a cell that holds the nil slice there stands a row without elements. -/
theorem Runs.nilCell {P : Program} {m : Nat} {c : Code} {st : St} {K : Ex → St → Prop} (i j : Nat) (e : TypeId) (sz : Nat) (g : Nat → List CV) {t : TypeId} {cs : List CV} (hi : st.h[i]? = some (.cells t cs)) (hj : cs[j]? = some (.val (.slice none 0 0)))
    (h : Runs P m c ⟨st.t, st.h.set i (.cells t (cs.set j (.row st.h.length))) ++ [.row e sz 0 g]⟩ K) : Runs P m c st K := by
  refine ⟨fun w0 G ρb ρ1 a W hρ r hs hd => ?_⟩
  have hil : i < st.h.length := (List.getElem?_eq_some_iff.1 hi).1
  have r1 := r.addNil e sz g
  have hk : ((ρb ++ ρ1) ++ [(⟨0, .slice none 0 0, 0⟩ : Pl)])[st.h.length]? = some ⟨0, .slice none 0 0, 0⟩ := by
    rw [← r.len, List.getElem?_append_right (Nat.le_refl _)]
    simp
  have r2 := r1.recell (i := i) (t := t) (cs := cs) (cs' := cs.set j (.row st.h.length)) (by rw [List.getElem?_append_left hil]; exact hi) (fun vs hv => isL_nil hj hv hk)
  rw [List.set_append_left _ _ hil, List.append_assoc] at r2
  exact h.run w0 G ρb (ρ1 ++ [⟨0, .slice none 0 0, 0⟩]) a W hρ r2 (by rw [← List.append_assoc]; exact hs.app_ρ _) hd

/-- So in a slot. -/
theorem Runs.nilTmpE {P : Program} {m : Nat} {c : Code} {st : St} {K : Ex → St → Prop} (d : Nat) (en : Ent) (hen : isNilE en = true) (hd0 : st.t.getD d .und = .c (.val (.slice none 0 0)))
    (h : Runs P m c ⟨st.t.set d (.c (.row st.h.length)), st.h ++ [en]⟩ K) : Runs P m c st K := by
  refine ⟨fun w0 G ρb ρ1 a W hρ r hs hd => ?_⟩
  have r1 := r.addNilE en hen
  have hk : ((ρb ++ ρ1) ++ [(⟨0, .slice none 0 0, 0⟩ : Pl)])[st.h.length]? = some ⟨0, .slice none 0 0, 0⟩ := by
    rw [← r.len, List.getElem?_append_right (Nat.le_refl _)]
    simp
  have hs1 := hs.app_ρ [(⟨0, .slice none 0 0, 0⟩ : Pl)]
  have hget := tmps_get hs d
  rw [hd0] at hget
  have hu : a.tmps.getD d undef = .slice none 0 0 := by
    have h2 : CV.den (ρb ++ ρ1) (.val (.slice none 0 0)) = some (a.tmps.getD d undef) := hget
    simp only [CV.den, one, if_true] at h2
    exact (Option.some.inj h2).symm
  have hlt : d < a.tmps.size := tmps_lt hs hd0 (by simp)
  have hs2 := hs1.set d (y := .c (.row st.h.length)) (v := .slice none 0 0) (by
    show CV.den _ _ = _
    simp only [CV.den, hk, one, if_true])
  have e : a.tmps.toList.set d (.slice none 0 0) = a.tmps.toList := by
    rw [Array.getD_eq_getD_getElem?, Array.getElem?_eq_getElem hlt] at hu
    simp only [Option.getD_some] at hu
    rw [← hu]
    have : a.tmps[d] = a.tmps.toList[d]'(by simpa using hlt) := by simp
    rw [this, List.set_getElem_self]
  rw [e] at hs2
  rw [List.append_assoc] at r1 hs2
  exact h.run w0 G ρb (ρ1 ++ [⟨0, .slice none 0 0, 0⟩]) a W hρ r1 hs2 hd
/-- Own rows are written no more. -/
theorem Runs.frzs {P : Program} {m : Nat} {c : Code} {st : St} {K : Ex → St → Prop} (ks : List Nat) (hk : frzOk st.h ks) (h : Runs P m c ⟨st.t, Vx.frzs st.h ks⟩ K) : Runs P m c st K :=
  ⟨fun w0 G ρb ρ1 a W hρ r hs hd => h.run w0 G ρb ρ1 a W hρ (r.frzs ks hk) hs hd⟩


/-! ### Results with places, under other numbers -/
def renE (σ : List Nat) : List (Option CV × List CV) → List (Option CV × List CV)
  | [] => []
  | (some x, cs) :: r => (some (renC σ x), cs) :: renE σ r
  | (none, cs) :: r => (none, renL σ cs) :: renE σ r
def renV (σ : List Nat) : SV → SV
  | .c x => .c (renC σ x)
  | .agg cs => .agg (renL σ cs)
  | .tup vs => .tup (renE σ vs)
  | .fn f cs => .fn f (renL σ cs)
  | x => x
def eltsSc (n : Nat) : List (Option CV × List CV) → Bool
  | [] => true
  | (some x, _) :: r => cvSc n x && eltsSc n r
  | (none, cs) :: r => cvsSc n cs && eltsSc n r
def svScV (n : Nat) : SV → Bool
  | .c x => cvSc n x
  | .agg cs => cvsSc n cs
  | .tup vs => eltsSc n vs
  | .fn _ cs => cvsSc n cs
  | _ => true
theorem elts_pick {ρ : List Pl} {σ : List Nat} : ∀ {xs : List (Option CV × List CV)} {us : List Value}, eltsSc σ.length xs = true → Elts ρ (renE σ xs) us → Elts (pick σ ρ) xs us
  | [], us, _, k => k
  | (some x, cs) :: xs, us, hs, k => by
    simp only [eltsSc, Bool.and_eq_true] at hs
    obtain ⟨u, us', rfl, h1, h2⟩ := k
    exact ⟨u, us', rfl, den_pick hs.1 h1, elts_pick hs.2 h2⟩
  | (none, cs) :: xs, us, hs, k => by
    simp only [eltsSc, Bool.and_eq_true] at hs
    obtain ⟨u, us', rfl, ⟨vs, g1, g2⟩, h2⟩ := k
    exact ⟨u, us', rfl, ⟨vs, isL_pick hs.1 g1, g2⟩, elts_pick hs.2 h2⟩
theorem svV_pick {ρ : List Pl} {σ : List Nat} {y : SV} {u : Value} (hs : svScV σ.length y = true) (h : (renV σ y).is ρ u) : y.is (pick σ ρ) u := by
  cases y with
  | c y => exact den_pick hs h
  | agg cs => obtain ⟨vs, g1, g2⟩ := h; exact ⟨vs, isL_pick hs g1, g2⟩
  | tup vs => obtain ⟨us, g1, g2⟩ := h; exact ⟨us, elts_pick hs g1, g2⟩
  | fn f cs => obtain ⟨vs, g1, g2⟩ := h; exact ⟨vs, isL_pick hs g1, g2⟩
  | und => exact h
  | any => trivial

/-! ### Results with places, behind other entries -/
def shC (n : Nat) : CV → CV
  | .ptr k o => .ptr (n + k) o
  | .row k => .row (n + k)
  | .sl k a b c => .sl (n + k) a b c
  | .eptr k i s o => .eptr (n + k) i s o
  | .aptr k i s o => .aptr (n + k) i s o
  | .vsl k i s o => .vsl (n + k) i s o
  | x => x
def shL (n : Nat) : List CV → List CV
  | [] => []
  | x :: xs => shC n x :: shL n xs
def shE (n : Nat) : List (Option CV × List CV) → List (Option CV × List CV)
  | [] => []
  | (some x, cs) :: r => (some (shC n x), cs) :: shE n r
  | (none, cs) :: r => (none, shL n cs) :: shE n r
def shV (n : Nat) : SV → SV
  | .c x => .c (shC n x)
  | .agg cs => .agg (shL n cs)
  | .tup vs => .tup (shE n vs)
  | .fn f cs => .fn f (shL n cs)
  | x => x
def shEnt (n : Nat) : Ent → Ent
  | .cells t cs => .cells t (shL n cs)
  | x => x
def shEnts (n : Nat) : List Ent → List Ent
  | [] => []
  | x :: xs => shEnt n x :: shEnts n xs
theorem shEnts_map (n : Nat) : ∀ xs : List Ent, shEnts n xs = xs.map (shEnt n)
  | [] => rfl
  | x :: xs => by rw [shEnts, List.map_cons, shEnts_map n xs]

theorem sh_get {ρ ρ' : List Pl} {k : Nat} : (ρ ++ ρ')[ρ.length + k]? = ρ'[k]? := by
  rw [List.getElem?_append_right (by omega)]
  congr 1
  omega
theorem den_sh {ρ ρ' : List Pl} {x : CV} {u : Value} (h : x.den ρ' = some u) : (shC ρ.length x).den (ρ ++ ρ') = some u := by
  cases x <;> simp only [shC, CV.den, sh_get] at h ⊢ <;> exact h
theorem isL_sh {ρ ρ' : List Pl} : ∀ {xs : List CV} {us : List Value}, IsL ρ' xs us → IsL (ρ ++ ρ') (shL ρ.length xs) us
  | [], us, k => k
  | x :: xs, us, k => by
    cases us with
    | nil => simp [IsL] at k
    | cons u us =>
      simp only [IsL, List.map_cons, List.cons.injEq] at k
      exact IsL.cons (den_sh k.1) (isL_sh k.2)
theorem elts_sh {ρ ρ' : List Pl} : ∀ {xs : List (Option CV × List CV)} {us : List Value}, Elts ρ' xs us → Elts (ρ ++ ρ') (shE ρ.length xs) us
  | [], us, k => k
  | (some x, cs) :: xs, us, k => by
    obtain ⟨u, us', rfl, h1, h2⟩ := k
    exact ⟨u, us', rfl, den_sh h1, elts_sh h2⟩
  | (none, cs) :: xs, us, k => by
    obtain ⟨u, us', rfl, ⟨vs, g1, g2⟩, h2⟩ := k
    exact ⟨u, us', rfl, ⟨vs, isL_sh g1, g2⟩, elts_sh h2⟩
theorem svV_sh {ρ ρ' : List Pl} {y : SV} {u : Value} (h : y.is ρ' u) : (shV ρ.length y).is (ρ ++ ρ') u := by
  cases y with
  | c y => exact den_sh h
  | agg cs => obtain ⟨vs, g1, g2⟩ := h; exact ⟨vs, isL_sh g1, g2⟩
  | tup vs => obtain ⟨us, g1, g2⟩ := h; exact ⟨us, elts_sh g1, g2⟩
  | fn f cs => obtain ⟨vs, g1, g2⟩ := h; exact ⟨vs, isL_sh g1, g2⟩
  | und => exact h
  | any => trivial
theorem ent_sh {ρ ρ' : List Pl} {e : Ent} {p : Pl} {W : World} (h : e.ok ρ' p W) : (shEnt ρ.length e).ok (ρ ++ ρ') p W := by
  cases e with
  | cells t cs => obtain ⟨vs, h1, h2⟩ := h; exact ⟨vs, isL_sh h1, h2⟩
  | row e sz n g => exact h
  | bytes e l => exact h
  | elems ty sz n g => exact h
  | glob g sz n get => exact h
  | data fr ty sz n get => exact h
  | orow ty sz n get => exact h
  | dead => exact h
  | mp gs l => exact h
theorem shEnt_fp {n : Nat} {e : Ent} {p : Pl} : (shEnt n e).fp p = e.fp p ∧ (shEnt n e).isElems = e.isElems ∧ (shEnt n e).dep p = e.dep p := by
  cases e <;> exact ⟨rfl, rfl, rfl⟩

def noElems : List Ent → Bool
  | [] => true
  | e :: es => !e.stays && noElems es
theorem noElems_get {es : List Ent} (h : noElems es = true) {k : Nat} {e : Ent} (hk : es[k]? = some e) : e.stays = false := by
  induction es generalizing k with
  | nil => simp at hk
  | cons x xs ih =>
    simp only [noElems, Bool.and_eq_true, Bool.not_eq_true'] at h
    cases k with
    | zero => simp at hk; subst hk; exact h.1
    | succ k => exact ih h.2 (by simpa using hk)

/-- What a call made stands behind what was there. -/
theorem Rel.join {w0 : World} {G : Gs} {ρ ρ' : List Pl} {h es : List Ent} {W W' : World} (r : Rel w0 G ρ h W) (k : Rel W (Gs.all []) ρ' es W') (hne : noElems es = true) : Rel w0 G (ρ ++ ρ') (h ++ shEnts ρ.length es) W' := by
  have r' := r.belowStep k.toBelow
  rw [shEnts_map]
  have hlen : ρ.length = h.length := r.len
  have hcase : ∀ {j : Nat} {x : Ent} {q : Pl}, (h ++ es.map (shEnt ρ.length))[j]? = some x → (ρ ++ ρ')[j]? = some q → (j < h.length ∧ h[j]? = some x ∧ ρ[j]? = some q) ∨ (∃ i e, j = h.length + i ∧ es[i]? = some e ∧ x = shEnt ρ.length e ∧ ρ'[i]? = some q) := fun {j x q} hx hq => by
    by_cases hj : j < h.length
    · rw [List.getElem?_append_left hj] at hx
      rw [List.getElem?_append_left (by omega)] at hq
      exact Or.inl ⟨hj, hx, hq⟩
    · rw [List.getElem?_append_right (by omega), List.getElem?_map] at hx
      rw [List.getElem?_append_right (by omega), hlen] at hq
      cases he : es[j - h.length]? with
      | none => rw [he] at hx; cases hx
      | some e =>
        rw [he] at hx
        exact Or.inr ⟨j - h.length, e, by omega, he, (Option.some.inj hx).symm, hq⟩
  have hfp : ∀ {j b : Nat}, fp (ρ ++ ρ') (h ++ es.map (shEnt ρ.length)) j = some b → (j < h.length ∧ fp ρ h j = some b) ∨ (∃ i, j = h.length + i ∧ fp ρ' es i = some b) := fun {j b} hf => by
    obtain ⟨x, q, hx, hq, hb⟩ := fp_some hf
    rcases hcase hx hq with ⟨h1, h2, h3⟩ | ⟨i, e, h1, h2, rfl, h3⟩
    · exact Or.inl ⟨h1, by rw [fp_mk h2 h3]; exact hb⟩
    · exact Or.inr ⟨i, h1, by rw [fp_mk h2 h3, ← shEnt_fp.1]; exact hb⟩
  have hnew : ∀ {i b : Nat}, fp ρ' es i = some b → W.heap.size ≤ b := fun {i b} hf => (k.own i b hf).2.resolve_left (by simp)
  refine ⟨by simp [hlen, k.len], fun j x q hx hq => ?_, fun j b hf => ?_, fun i j b hi hj => ?_, r'.kept, fun j x q hx hq => ?_, r'.os, r'.tape, r'.output, r'.size⟩
  · rcases hcase hx hq with ⟨h1, h2, h3⟩ | ⟨i, e, h1, h2, rfl, h3⟩
    · exact Ent.ok_app (r'.ok j x q h2 h3) _
    · exact ent_sh (k.ok i e q h2 h3)
  · rcases hfp hf with ⟨h1, h2⟩ | ⟨i, h1, h2⟩
    · exact r'.own j b h2
    · exact ⟨(k.own i b h2).1, Or.inr (Nat.le_trans r.size (hnew h2))⟩
  · rcases hfp hi with ⟨a1, a2⟩ | ⟨i', a1, a2⟩
    · rcases hfp hj with ⟨b1, b2⟩ | ⟨j', b1, b2⟩
      · exact r.dis i j b a2 b2
      · have := (r.own i b a2).1; have := hnew b2; omega
    · rcases hfp hj with ⟨b1, b2⟩ | ⟨j', b1, b2⟩
      · have := (r.own j b b2).1; have := hnew a2; omega
      · have := k.dis i' j' b a2 b2
        omega
  · rcases hcase hx hq with ⟨g1, g2, g3⟩ | ⟨i, e, g1, g2, rfl, g3⟩
    · refine Ent.dat_mono (r.dat j x q g2 g3) (r.datStep k.size (fun i b hf => ?_) fun b hb _ _ => k.kept b hb (by simp)) fun b hb => k.kept b (r.own j b (by rw [fp_mk g2 g3]; exact hb)).1 (by simp)
      rcases hfp hf with ⟨_, h3⟩ | ⟨i', _, h3⟩
      · exact Or.inl ⟨i, h3⟩
      · exact Or.inr (hnew h3)
    · have hst := noElems_get hne g2
      have hd := k.dat i e q g2 g3
      cases e with
      | data fr ty sz n get =>
        cases fr with
        | false => cases hst
        | true =>
          refine Cell.shows_fresh (ty := ty) (fun b hb => ⟨⟨Or.inr (Nat.le_trans r.size (hb.1.resolve_left (by simp))), hb.2.1, fun j' hj' => ?_⟩, rfl⟩) hd
          rcases hfp hj' with ⟨_, h3⟩ | ⟨i', _, h3⟩
          · have := (r.own j' b h3).1; have := hb.1.resolve_left (by simp); omega
          · exact hb.2.2 i' h3
      | orow ty sz n get => cases hst
      | elems ty sz n get => cases hst
      | glob g sz n get => cases hst
      | _ => trivial

abbrev SpecB := List SV → List View → Option (Prop × SV × List Ent)
/-- A function that reads slices and hands out what it made. -/
structure Born (P : Program) (f : FuncId) (sz : Nat) (spec : SpecB) : Prop where
  fn : callable P f = true
  no : ∀ args vs pre res es, spec args vs = some (pre, res, es) → noElems es = true
  run : ∀ args vs pre res es, spec args vs = some (pre, res, es) → pre → ∀ W ps us, GoodL W sz vs ps → IsS ps args us → Calls P f us.toArray W fun e W' => ∃ u ρ', e = .returned u ∧ res.is ρ' u ∧ Rel W (Gs.all []) ρ' es W'

noncomputable def appBorn (sz : Nat) (spec : SpecB) : App := fun args h =>
  match absA sz h 0 args with
  | some (as, vs) => match spec as vs with
    | some (pre, res, es) => some ⟨pre, shV h.length res, h ++ shEnts h.length es, []⟩
    | none => none
  | none => none

theorem Born.ct {P : Program} {f : FuncId} {sz : Nat} {spec : SpecB} (m : Born P f sz spec) : CtOk P f (appBorn sz spec) := by
  have hsp : ∀ args hp r, appBorn sz spec args hp = some r → ∃ as vs res es, absA sz hp 0 args = some (as, vs) ∧ spec as vs = some (r.pre, res, es) ∧ r.res = shV hp.length res ∧ r.h = hp ++ shEnts hp.length es ∧ r.ms = [] := fun args hp r hr => by
    unfold appBorn at hr
    split at hr
    · rename_i as vs ha
      split at hr
      · rename_i pre res es hs
        cases hr
        exact ⟨as, vs, res, es, ha, hs, rfl, rfl, rfl⟩
      · cases hr
    · cases hr
  refine ⟨callable_spec m.fn, fun args hp r hr => ?_, fun args hp r hr hpre w0 G ρ W us rel hs => ?_⟩
  · obtain ⟨as, vs, res, es, _, h2, _, h4, h5⟩ := hsp args hp r hr
    rw [h4]
    exact ⟨by simp, fun k hk _ => by rw [List.getElem?_append_left hk]⟩
  · obtain ⟨as, vs, res, es, ha, h2, h3, h4, h5⟩ := hsp args hp r hr
    obtain ⟨ps, g, hq⟩ := absA_ok rel ha hs
    have hi := hq [] [] rfl
    rw [List.nil_append, List.append_nil] at hi
    refine Calls.mono (m.run as vs _ res es h2 hpre W ps us g hi) fun e W' he => ?_
    obtain ⟨u, ρ', rfl, hu, hr'⟩ := he
    refine ⟨u, ρ', rfl, ?_, ?_⟩
    · rw [h3, ← rel.len]
      exact svV_sh hu
    · rw [h4, ← rel.len]
      exact rel.join hr' (m.no _ _ _ _ _ h2)

/-- As cvSame, but that the nil slice may be told as the row k. -/
def cvSameN (k : Nat) : CV → CV → Prop
  | .val (.slice none 0 0), .row j => j = k
  | x, y => cvSame x y
def cvsSameN (k : Nat) : List CV → List CV → Prop
  | [], [] => True
  | x :: xs, y :: ys => cvSameN k x y ∧ cvsSameN k xs ys
  | _, _ => False
def eltsSameN (k : Nat) : List (Option CV × List CV) → List (Option CV × List CV) → Prop
  | [], [] => True
  | (some x, _) :: r, (some y, _) :: s => cvSameN k x y ∧ eltsSameN k r s
  | (none, xs) :: r, (none, ys) :: s => cvsSameN k xs ys ∧ eltsSameN k r s
  | _, _ => False
def svSameN (k : Nat) : SV → SV → Prop
  | .c x, .c y => cvSameN k x y
  | .agg xs, .agg ys => cvsSameN k xs ys
  | .tup xs, .tup ys => eltsSameN k xs ys
  | _, _ => False
theorem cvSameN_ok {k : Nat} {x y : CV} (h : cvSameN k x y) {ρ : List Pl} (hk : ρ[k]? = some ⟨0, .slice none 0 0, 0⟩) {u : Value} (d : x.den ρ = some u) : y.den ρ = some u := by
  unfold cvSameN at h
  split at h
  · subst h
    simp only [CV.den, hk, one, if_true] at d ⊢
    exact d
  · exact cvSame_ok h d
theorem cvsSameN_ok {k : Nat} {ρ : List Pl} (hk : ρ[k]? = some ⟨0, .slice none 0 0, 0⟩) : ∀ {xs ys : List CV} {us : List Value}, cvsSameN k xs ys → IsL ρ xs us → IsL ρ ys us
  | [], [], us, _, d => d
  | x :: xs, y :: ys, us, h, d => by
    cases us with
    | nil => simp [IsL] at d
    | cons u us =>
      simp only [IsL, List.map_cons, List.cons.injEq] at d
      exact IsL.cons (cvSameN_ok h.1 hk d.1) (cvsSameN_ok hk h.2 d.2)
  | [], _ :: _, _, h, _ => h.elim
  | _ :: _, [], _, h, _ => h.elim
theorem eltsSameN_ok {k : Nat} {ρ : List Pl} (hk : ρ[k]? = some ⟨0, .slice none 0 0, 0⟩) : ∀ {xs ys : List (Option CV × List CV)} {us : List Value}, eltsSameN k xs ys → Elts ρ xs us → Elts ρ ys us
  | [], [], us, _, d => d
  | (some x, _) :: xs, (some y, _) :: ys, us, h, d => by
    obtain ⟨u, us', rfl, h1, h2⟩ := d
    exact ⟨u, us', rfl, cvSameN_ok h.1 hk h1, eltsSameN_ok hk h.2 h2⟩
  | (none, x) :: xs, (none, y) :: ys, us, h, d => by
    obtain ⟨u, us', rfl, ⟨vs, g1, g2⟩, h2⟩ := d
    exact ⟨u, us', rfl, ⟨vs, cvsSameN_ok hk h.1 g1, g2⟩, eltsSameN_ok hk h.2 h2⟩
  | [], _ :: _, _, h, _ => by simp [eltsSameN] at h
  | _ :: _, [], _, h, _ => by simp [eltsSameN] at h
  | (some _, _) :: _, (none, _) :: _, _, h, _ => by simp [eltsSameN] at h
  | (none, _) :: _, (some _, _) :: _, _, h, _ => by simp [eltsSameN] at h
theorem svSameN_ok {k : Nat} {x y : SV} (h : svSameN k x y) {ρ : List Pl} (hk : ρ[k]? = some ⟨0, .slice none 0 0, 0⟩) {u : Value} (d : x.is ρ u) : y.is ρ u := by
  unfold svSameN at h
  split at h
  · exact cvSameN_ok h hk d
  · obtain ⟨vs, h1, h2⟩ := d; exact ⟨vs, cvsSameN_ok hk h h1, h2⟩
  · obtain ⟨us, h1, h2⟩ := d; exact ⟨us, eltsSameN_ok hk h h1, h2⟩
  · exact h.elim

/-- What the function leaves: its result and what that hangs on, under the numbers σ; behind the entries stands a row without elements, for nil slices. -/
structure Left (ty : TypeId) (sz : Nat) (σ : List Nat) (v : SV) (h : List Ent) (res : SV) (es : List Ent) : Prop where
  sc : svScV σ.length res = true
  v : svSameN h.length v (renV σ res)
  d : σ.Nodup
  h : hLeR σ (h ++ [.row ty sz 0 fun _ => []]) σ es

theorem Born.of {P : Program} {E : Tbl} {C : List (Nat × App)} (M : List Nat) (U : Nat) (R : List (Nat × List (Nat × Bool))) (hE : E.Ok P) (hC : CtsOk P C) (hm : P.follows .mixedOrders = true)
    {f : FuncId} {fn : Func} {c : Code} {n : Nat} {res : List ResultVar} (hf : P.funcs[f]? = some fn) (hb : fn.body = some c) (hn : fn.ntmps = n) (hr : fn.results.toList = res) (hc : codeOk R c = true) (hcall : callable P f = true)
    {sz : Nat} (ty : TypeId) (m : Nat) (ty' : TypeId) (sz' : Nat) {spec : SpecB} (hpf : ∀ args vs pre r es, spec args vs = some (pre, r, es) → noElems es = true ∧ vs.length = m)
    (hx : ∀ args vs pre r es, spec args vs = some (pre, r, es) → pre → ∃ ws, SameV vs ws ∧ exec (env (lft P m) U .std E C R) M c ⟨args ++ List.replicate (n - args.length) .und, ws.map (viewE ty sz)⟩ (fin .std E res fun v h => ∃ σ, Left ty' sz' σ v h r es)) : Born P f sz spec := by
  refine ⟨hcall, fun args vs pre r es hs => (hpf args vs pre r es hs).1, fun args vs pre r es hs hp W ps us g hus => ?_⟩
  obtain ⟨ws, hw, hx'⟩ := hx args vs pre r es hs hp
  have g' := g.same hw
  have hl : (ws.map (viewE ty sz)).length = m := by rw [List.length_map, ← hw.1, (hpf _ _ _ _ _ hs).2]
  refine Calls.mono (fn_ok (N := env (lft P m) U .std E C R) rfl hE hC hm M hf hb hn hr hc (h := ws.map (viewE ty sz)) (fun c st K _ h => by rw [hl]; exact h) (g'.rel ty) hus _ hx') fun e W' he => ?_
  obtain ⟨v, u, ρ', h', rfl, h1, h2, σ, l1, l2, l3, l4⟩ := he
  have h3 := h2.addNil ty' sz' (fun _ => [])
  have hk : ((ps ++ ρ') ++ [(⟨0, .slice none 0 0, 0⟩ : Pl)])[h'.length]? = some ⟨0, .slice none 0 0, 0⟩ := by
    rw [← h2.len, List.getElem?_append_right (Nat.le_refl _)]
    simp
  exact ⟨u, pick σ ((ps ++ ρ') ++ [⟨0, .slice none 0 0, 0⟩]), rfl, svV_pick l1 (svSameN_ok l2 hk (SV.is_app h1 _)), h3.pick l4 l3⟩
end Go.Proofs.Ythomoliklfmnkaa.Vx
end
