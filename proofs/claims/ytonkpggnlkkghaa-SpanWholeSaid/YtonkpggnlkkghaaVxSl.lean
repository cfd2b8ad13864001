/- Slices that are read: what they hold; how they are handed to a function. -/
import Derived.Test.YtonkpggnlkkghaaVxMeth
namespace Go.Proofs.Ytonkpggnlkkghaa.Vx
open Go.RowKit
set_option linter.unusedVariables false
set_option linter.unusedSimpArgs false

/-- n elements of sz cells lie at a, and read as get says. -/
def SlAt (W : World) (a : Option Addr) (sz n : Nat) (get : Nat → List CV) : Prop :=
  ∃ b o, (0 < n → a = some ⟨b, o, none⟩ ∧ b < W.heap.size) ∧ ∀ i, i < n → ∃ vs, IsL [] (get i) vs ∧ ∀ j v, vs[j]? = some v → W.cell? ⟨b, o + i * sz + j, none⟩ = some v

theorem Rel.sl {W : World} {a : Option Addr} {sz n cap : Nat} {get : Nat → List CV} {ty : TypeId} (h : SlAt W a sz n get) (hc : n ≤ cap) : ∃ b o, Rel W [] [⟨b, .slice a n cap, o⟩] [.elems ty sz n get] W := by
  obtain ⟨b, o, h1, h2⟩ := h
  have h0 : ∀ {k : Nat} {e : Ent}, [Ent.elems ty sz n get][k]? = some e → k = 0 ∧ e = .elems ty sz n get := fun {k e} h => by
    cases k with
    | zero => simp at h; exact ⟨rfl, h.symm⟩
    | succ k => simp at h
  have hf : ∀ {k c : Nat}, fp [⟨b, .slice a n cap, o⟩] [Ent.elems ty sz n get] k = some c → False := fun {k c} h => by
    obtain ⟨e, p, he, hp, hx⟩ := fp_some h
    obtain ⟨rfl, rfl⟩ := h0 he
    cases hx
  refine ⟨b, o, rfl, fun k e p he hp => ?_, fun k c h => (hf h).elim, fun j k c h1 h2 => (hf h1).elim, fun _ _ _ => rfl, fun k e p c he hp g1 g2 => ?_, rfl, rfl, rfl, Nat.le_refl _⟩
  · obtain ⟨rfl, rfl⟩ := h0 he
    simp at hp
    subst hp
    exact ⟨⟨a, cap, rfl, hc, fun hn => (h1 hn).1⟩, h2⟩
  · obtain ⟨rfl, rfl⟩ := h0 he
    simp at hp
    subst hp
    simp only [Ent.dep] at g2
    split at g2
    · rename_i hn
      cases g2
      exact ⟨(h1 hn).2, by simp⟩
    · cases g2

/-- A function of one slice that only reads. spec: the number of elements, the elements. -/
structure Reads (P : Program) (f : FuncId) (sz : Nat) (spec : Nat → (Nat → List CV) → Option (Prop × SV)) : Prop where
  fn : callable P f = true
  run : ∀ n get pre res, spec n get = some (pre, res) → pre → ∀ W a cap, SlAt W a sz n get → n ≤ cap → Calls P f #[.slice a n cap] W fun e W' => ∃ u, e = .returned u ∧ res.is [] u ∧ Below W.heap.size W W'

/-- A row of cells cut into elements. -/
def cutC (sz : Nat) (cs : List CV) (off : Nat) (i : Nat) : List CV := (cs.drop (off + i * sz)).take sz

noncomputable def appReads (sz : Nat) (spec : Nat → (Nat → List CV) → Option (Prop × SV)) : App := fun args h =>
  match args with
  | [.c (.sl k off len cap)] => match h[k]? with
    | some (.cells t cs) => match pfs cs && Nat.ble (off + len * sz) cs.length && Nat.ble len cap with
      | true => match spec len (cutC sz cs off) with
        | some (pre, res) => some ⟨pre, res, h, []⟩
        | none => none
      | false => none
    | _ => none
  | [.c (.row k)] => match h[k]? with
    | some (.elems t sz' n get) => match Nat.beq sz sz' with
      | true => match spec n get with
        | some (pre, res) => some ⟨pre, res, h, []⟩
        | none => none
      | false => none
    | _ => none
  | _ => none

theorem Reads.ct {P : Program} {f : FuncId} {sz : Nat} {spec : Nat → (Nat → List CV) → Option (Prop × SV)} (m : Reads P f sz spec) : CtOk P f (appReads sz spec) := by
  refine ⟨callable_spec m.fn, fun args hp r hr => ?_, fun args hp r hr hpre ρ W us rel hs => ?_⟩
  · have : r.h = hp ∧ r.ms = [] := by
      unfold appReads at hr
      repeat' split at hr
      all_goals first
        | (cases hr; exact ⟨rfl, rfl⟩)
        | cases hr
    rw [this.1]
    exact ⟨Nat.le_refl _, fun _ _ _ => rfl, fun _ _ h _ => h⟩
  · unfold appReads at hr
    split at hr
    · rename_i k off len cap
      obtain ⟨u, us', rfl, hu, hnil⟩ := hs
      cases hnil
      obtain ⟨p, hpk, rfl⟩ := den_sl hu
      split at hr
      · rename_i t cs hk
        split at hr
        · rename_i hb
          simp only [Bool.and_eq_true, Nat.ble_eq] at hb
          obtain ⟨hb, hlc⟩ := hb
          split at hr
          · rename_i pre res hsp
            cases hr
            obtain ⟨vs, hv1, hv2⟩ := rel.ok k _ p hk hpk
            have hlt : p.b < W.heap.size := (Array.getElem?_eq_some_iff.1 hv2).1
            refine Calls.mono (m.run len _ pre res hsp hpre W (some ⟨p.b, off, none⟩) cap ⟨p.b, off, fun _ => ⟨rfl, hlt⟩, fun i hi => ⟨_, ((isL_pf hb.1 hv1 []).drop _).take _, fun j v hj => ?_⟩⟩ hlc) fun e W' he => ?_
            · rw [cell_of_row W p.b _ _ t (0, 0) hv2]
              simp only [List.getElem?_take, List.getElem?_drop] at hj
              split at hj
              · simpa using hj
              · cases hj
            · obtain ⟨u, rfl, hu, hbel⟩ := he
              refine ⟨u, [], rfl, by rw [List.append_nil]; simpa using SV.is_app hu ρ, by rw [List.append_nil]; exact rel.belowStep hbel⟩
          · cases hr
        · cases hr
      · cases hr
    · rename_i k
      obtain ⟨u, us', rfl, hu, hnil⟩ := hs
      cases hnil
      obtain ⟨p, hpk, rfl⟩ := den_row hu
      split at hr
      · rename_i t sz' n get hk
        split at hr
        · rename_i hb
          have hsz : sz = sz' := by simpa using hb
          subst hsz
          split at hr
          · rename_i pre res hsp
            cases hr
            obtain ⟨⟨a, cap, hpv, hcap, ha⟩, hget⟩ := rel.ok k _ p hk hpk
            rw [hpv]
            refine Calls.mono (m.run n get pre res hsp hpre W a cap ⟨p.b, p.o, fun hn => ⟨ha hn, (rel.ro k _ p p.b hk hpk rfl (by simp [Ent.dep, hn])).1⟩, hget⟩ hcap) fun e W' he => ?_
            obtain ⟨u, rfl, hu, hbel⟩ := he
            exact ⟨u, [], rfl, by rw [List.append_nil]; simpa using SV.is_app hu ρ, by rw [List.append_nil]; exact rel.belowStep hbel⟩
          · cases hr
        · cases hr
      · cases hr
    · cases hr

theorem Reads.of {P : Program} {E : Tbl} {C : List (Nat × App)} (M : List Nat) (U : Nat) (R : List (Nat × List (Nat × Bool))) (hE : E.Ok P) (hC : CtsOk P C) (hm : P.follows .mixedOrders = true)
    {f : FuncId} {fn : Func} {c : Code} {n : Nat} {res : List ResultVar} (hf : P.funcs[f]? = some fn) (hb : fn.body = some c) (hn : fn.ntmps = n) (hr : fn.results.toList = res) (hc : codeOk R c = true) (hcall : callable P f = true)
    {sz : Nat} (ty : TypeId) {spec : Nat → (Nat → List CV) → Option (Prop × SV)} (hpf : ∀ m get pre r, spec m get = some (pre, r) → r.pf = true)
    (hx : ∀ m get pre r, spec m get = some (pre, r) → pre → ∃ get' : Nat → List CV, (∀ i, i < m → get i = get' i) ∧ exec (env (lft P 1) U .std E C R) M c ⟨[.c (.row 0)] ++ List.replicate (n - 1) .und, [.elems ty sz m get']⟩ (fin .std E res fun v _ => svSame v r)) : Reads P f sz spec := by
  refine ⟨hcall, fun m get0 pre r hs hp W a cap hsl0 hcap => ?_⟩
  obtain ⟨get, hget, hx'⟩ := hx m get0 pre r hs hp
  have hsl : SlAt W a sz m get := by
    obtain ⟨b, o, h1, h2⟩ := hsl0
    exact ⟨b, o, h1, fun i hi => by rw [← hget i hi]; exact h2 i hi⟩
  obtain ⟨b, o, hrel⟩ := Rel.sl (cap := cap) (ty := ty) hsl hcap
  have hargs : IsS [⟨b, .slice a m cap, o⟩] [.c (.row 0)] [.slice a m cap] := ⟨_, [], rfl, rfl, rfl⟩
  refine Calls.mono (fn_ok (N := env (lft P 1) U .std E C R) rfl hE hC hm M hf hb hn hr hc (h := [.elems ty sz m get]) (fun c st K _ h => h) hrel hargs _ hx') fun e W' he => ?_
  obtain ⟨v, u, ρ', h', rfl, h1, h2, h3⟩ := he
  exact ⟨u, rfl, SV.is_pf (hpf _ _ _ _ hs) (svSame_ok h3 h1) [], h2.toBelow⟩
end Go.Proofs.Ytonkpggnlkkghaa.Vx
