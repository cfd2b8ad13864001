/- A function's walk whose result holds a slice literal of one element with slices: it is handed out as data. -/
import Derived.Test.YthomoliklfmnkaaDoorVxFrame
section
namespace Go.Proofs.YthomoliklfmnkaaDoor.Vx
open Go.RowKit
set_option linter.unusedVariables false
set_option linter.unusedSimpArgs false
end Go.Proofs.YthomoliklfmnkaaDoor.Vx
end

section
/- A slice literal of one element, seen as a row: what is appended to it goes on from there. -/
namespace Go.Proofs.YthomoliklfmnkaaDoor.Vx
open Go.RowKit
set_option linter.unusedVariables false
set_option linter.unusedSimpArgs false
theorem Rel.litR {w0 : World} {G : Gs} {ρ : List Pl} {h : List Ent} {W : World} (r : Rel w0 G ρ h W) {k : Nat} {t : TypeId} {cs : List CV} {p : Pl} (hk : h[k]? = some (.cells t cs)) (hp : ρ[k]? = some p) (hc : pfs cs = true) :
    Rel w0 G (ρ ++ [⟨p.b, .slice (some ⟨p.b, 0, none⟩) 1 1, 0⟩]) (h.set k .dead ++ [.row t cs.length 1 fun _ => cs]) W := by
  have hlt : k < h.length := (List.getElem?_eq_some_iff.1 hk).1
  have hfk : fp ρ h k = some p.b := by rw [fp_mk hk hp]; rfl
  obtain ⟨vs, hvs, hheap⟩ := r.ok k _ p hk hp
  have hlen : vs.length = cs.length := hvs.len.symm
  have hget : ∀ (j : Nat) (e : Ent) (q : Pl), (h.set k .dead ++ [.row t cs.length 1 fun _ => cs])[j]? = some e → (ρ ++ [⟨p.b, .slice (some ⟨p.b, 0, none⟩) 1 1, 0⟩])[j]? = some q → (j = k ∧ e = .dead) ∨ (j ≠ k ∧ j < h.length ∧ h[j]? = some e ∧ ρ[j]? = some q) ∨ (j = h.length ∧ e = (.row t cs.length 1 fun _ => cs) ∧ q = ⟨p.b, .slice (some ⟨p.b, 0, none⟩) 1 1, 0⟩) := fun j e q he hq => by
    rcases getElem?_snoc he with ⟨h1, h2⟩ | ⟨h1, rfl⟩
    · rw [List.length_set] at h1
      rcases getElem?_snoc hq with ⟨g1, g2⟩ | ⟨g1, _⟩
      · by_cases hj : j = k
        · subst hj
          rw [List.getElem?_set_self hlt] at h2
          exact Or.inl ⟨rfl, (Option.some.inj h2).symm⟩
        · rw [List.getElem?_set_ne (fun e => hj e.symm)] at h2
          exact Or.inr (Or.inl ⟨hj, h1, h2, g2⟩)
      · rw [r.len] at g1; omega
    · rw [List.length_set] at h1
      rcases getElem?_snoc hq with ⟨g1, _⟩ | ⟨_, rfl⟩
      · rw [r.len] at g1; omega
      · exact Or.inr (Or.inr ⟨h1, rfl, rfl⟩)
  have hfp : ∀ j b, fp (ρ ++ [⟨p.b, .slice (some ⟨p.b, 0, none⟩) 1 1, 0⟩]) (h.set k .dead ++ [.row t cs.length 1 fun _ => cs]) j = some b → (j < h.length ∧ j ≠ k ∧ fp ρ h j = some b) ∨ (j = h.length ∧ b = p.b) := fun j b hf => by
    obtain ⟨x, q, hx, hq, hb⟩ := fp_some hf
    rcases hget j x q hx hq with ⟨_, rfl⟩ | ⟨h1, h2, h3, h4⟩ | ⟨h1, rfl, rfl⟩
    · cases hb
    · exact Or.inl ⟨h2, h1, by rw [fp_mk h3 h4]; exact hb⟩
    · exact Or.inr ⟨h1, by cases hb; rfl⟩
  have hst : ∀ fr b, Dom w0 G ρ h W fr b → Dom w0 G (ρ ++ [⟨p.b, .slice (some ⟨p.b, 0, none⟩) 1 1, 0⟩]) (h.set k .dead ++ [.row t cs.length 1 fun _ => cs]) W fr b := Dom.mono (Nat.le_refl _) fun j b hf => by
    rcases hfp j b hf with ⟨_, _, h3⟩ | ⟨_, rfl⟩
    · exact Or.inl ⟨j, h3⟩
    · exact Or.inl ⟨k, hfk⟩
  refine ⟨by simp [r.len], fun j x q hx hq => ?_, fun j b hf => ?_, fun i j b hi hj => ?_, r.kept, fun j x q hx hq => ?_, r.os, r.tape, r.output, r.size⟩
  · rcases hget j x q hx hq with ⟨_, rfl⟩ | ⟨_, _, h3, h4⟩ | ⟨_, rfl, rfl⟩
    · trivial
    · exact Ent.ok_app (r.ok j x q h3 h4) _
    · refine ⟨vs, ⟨fun i hi => ?_, rfl, fun g hg => by cases hg; rfl⟩, by rw [hlen, Nat.one_mul], Or.inr ⟨p.b, 1, vs.toArray, rfl, Nat.zero_le _, hheap, Nat.le_refl _, by decide, by simp [hlen], by simp [← hlen]⟩⟩
      obtain rfl : i = 0 := by omega
      rw [Nat.zero_mul, List.drop_zero, ← hlen, List.take_length]
      exact isL_pf hc hvs []
  · rcases hfp j b hf with ⟨_, _, h3⟩ | ⟨_, rfl⟩
    · exact r.own j b h3
    · exact r.own k _ hfk
  · rcases hfp i b hi with ⟨h1, h2, h3⟩ | ⟨h1, rfl⟩
    · rcases hfp j b hj with ⟨g1, g2, g3⟩ | ⟨g1, rfl⟩
      · exact r.dis i j b h3 g3
      · exact absurd (r.dis i k _ h3 hfk) h2
    · rcases hfp j _ hj with ⟨g1, g2, g3⟩ | ⟨g1, _⟩
      · exact absurd (r.dis j k _ g3 hfk) g2
      · omega
  · rcases hget j x q hx hq with ⟨_, rfl⟩ | ⟨_, _, h3, h4⟩ | ⟨_, rfl, rfl⟩
    · trivial
    · exact Ent.dat_mono (r.dat j x q h3 h4) (fun fr b hb => ⟨hst fr b hb, rfl⟩) fun b _ => rfl
    · trivial
/-- So in a slot. -/
theorem Runs.litTmp {P : Program} {m : Nat} {c : Code} {st : St} {K : Ex → St → Prop} (d k : Nat) {t : TypeId} {cs : List CV} (hd0 : st.t.getD d .und = .c (.sl k 0 1 1)) (hk : st.h[k]? = some (.cells t cs)) (hc : pfs cs = true)
    (h : Runs P m c ⟨st.t.set d (.c (.row st.h.length)), st.h.set k .dead ++ [.row t cs.length 1 fun _ => cs]⟩ K) : Runs P m c st K := by
  refine ⟨fun w0 G ρb ρ1 a W hρ r hs hd => ?_⟩
  obtain ⟨p, hp, _⟩ := r.place hk
  have r1 := r.litR hk hp hc
  have hkq : ((ρb ++ ρ1) ++ [(⟨p.b, .slice (some ⟨p.b, 0, none⟩) 1 1, 0⟩ : Pl)])[st.h.length]? = some ⟨p.b, .slice (some ⟨p.b, 0, none⟩) 1 1, 0⟩ := by
    rw [← r.len, List.getElem?_append_right (Nat.le_refl _)]
    simp
  have hs1 := hs.app_ρ [(⟨p.b, .slice (some ⟨p.b, 0, none⟩) 1 1, 0⟩ : Pl)]
  have hget := tmps_get hs d
  rw [hd0] at hget
  have hu : a.tmps.getD d undef = .slice (some ⟨p.b, 0, none⟩) 1 1 := by
    have h2 : CV.den (ρb ++ ρ1) (.sl k 0 1 1) = some (a.tmps.getD d undef) := hget
    simp only [CV.den, hp] at h2
    exact (Option.some.inj h2).symm
  have hlt : d < a.tmps.size := tmps_lt hs hd0 (by simp)
  have hs2 := hs1.set d (y := .c (.row st.h.length)) (v := .slice (some ⟨p.b, 0, none⟩) 1 1) (by
    show CV.den _ _ = _
    simp only [CV.den, hkq, one, if_true])
  have e : a.tmps.toList.set d (.slice (some ⟨p.b, 0, none⟩) 1 1) = a.tmps.toList := by
    rw [Array.getD_eq_getD_getElem?, Array.getElem?_eq_getElem hlt] at hu
    simp only [Option.getD_some] at hu
    rw [← hu]
    have : a.tmps[d] = a.tmps.toList[d]'(by simpa using hlt) := by simp
    rw [this, List.set_getElem_self]
  rw [e] at hs2
  rw [List.append_assoc] at r1 hs2
  exact h.run w0 G ρb (ρ1 ++ [⟨p.b, .slice (some ⟨p.b, 0, none⟩) 1 1, 0⟩]) a W hρ r1 hs2 hd
/-- The result is the literal itself; it is handed out as a row. -/
structure LeftR (k m : Nat) (σ : List Nat) (v : SV) (h : List Ent) (res : SV) (es : List Ent) : Prop where
  ex : ∃ t cs, h[k]? = some (.cells t cs) ∧ pfs cs = true ∧ v = .c (.sl k 0 1 1) ∧ svSame (.c (.row h.length)) (renV σ res) ∧ hLeR σ (h.set k .dead ++ [.row t cs.length 1 fun _ => cs]) σ es
  sc : svScV σ.length res = true
  d : (liveN σ es).Nodup
  m : σ.take m = List.range m
theorem Fn.ofLR {P : Program} {E : Tbl} {C : List (Nat × App)} (M : List Nat) (U : Nat) (R : List (Nat × List (Nat × Bool))) (hE : E.Ok P) (hC : CtsOk P C) (hm : P.follows .mixedOrders = true)
    {f : FuncId} {fn : Func} {c : Code} {n : Nat} {res : List ResultVar} (hf : P.funcs[f]? = some fn) (hb : fn.body = some c) (hn : fn.ntmps = n) (hr : fn.results.toList = res) (hc : codeOk R c = true) (hcall : callable P f = true)
    (m : Nat) (ty' : TypeId) (sz' : Nat) {gs : List Nat} {vt : List (Nat × Nat)} {spec : SpecF} (hpf : ∀ args h pre r h', spec args h = some (pre, r, h') → noKept h' = true ∧ h.length = m ∧ m ≤ h'.length)
    (hx : ∀ args h pre r h', spec args h = some (pre, r, h') → pre → ∃ hs, hSame h hs ∧ exec (env (lft P m) U .std E C R) M c ⟨args ++ List.replicate (n - args.length) .und, hs⟩ (fin .std E res fun v hf => (∃ σ, LeftF ty' sz' m σ v hf r h') ∨ ∃ k σ, LeftR k m σ v hf r h')) : Fn P f gs vt spec := by
  refine ⟨hcall, fun args h pre r h' hs => ⟨(hpf _ _ _ _ _ hs).1, by rw [(hpf _ _ _ _ _ hs).2.1]; exact (hpf _ _ _ _ _ hs).2.2⟩, fun args h pre r h' hs hp o ρ W us rel hus => ?_⟩
  obtain ⟨hh, hw, hx'⟩ := hx args h pre r h' hs hp
  have hm1 : h.length = m := (hpf _ _ _ _ _ hs).2.1
  have hl : hh.length = m := by rw [(hSame_get hw).1, hm1]
  have hρ : ρ.length = m := by rw [rel.len, hm1]
  refine Calls.mono (fn_ok (N := env (lft P m) U .std E C R) rfl hE hC hm M hf hb hn hr hc (h := hh) (fun c st K _ h => by rw [hl]; exact h) (rel.same hw) hus _ hx') fun e W' he => ?_
  obtain ⟨v, u, ρ', h1', rfl, h1, h2, hcase⟩ := he
  rcases hcase with ⟨σ, l1, l2, l3, l4, l5⟩ | ⟨k, σ, ⟨t, cs, e1, e2, rfl, l2, l5⟩, l1, l3, l4⟩
  · have h3 := h2.addNil ty' sz' (fun _ => [])
    have hk : ((ρ ++ ρ') ++ [(⟨0, .slice none 0 0, 0⟩ : Pl)])[h1'.length]? = some ⟨0, .slice none 0 0, 0⟩ := by
      rw [← h2.len, List.getElem?_append_right (Nat.le_refl _)]
      simp
    obtain ⟨c1, hc1⟩ := pick_split (b := ρ' ++ [⟨0, .slice none 0 0, 0⟩]) hρ l4
    rw [← List.append_assoc] at hc1
    refine ⟨u, c1, rfl, ?_, ?_⟩
    · rw [← hc1]; exact svV_pick l1 (svSameN_ok l2 hk (SV.is_app h1 _))
    · rw [← hc1]; exact h3.pickL l5 l3
  · obtain ⟨p, hp', _⟩ := h2.place e1
    have h3 := h2.litR e1 hp' e2
    have hk : ((ρ ++ ρ') ++ [(⟨p.b, .slice (some ⟨p.b, 0, none⟩) 1 1, 0⟩ : Pl)])[h1'.length]? = some ⟨p.b, .slice (some ⟨p.b, 0, none⟩) 1 1, 0⟩ := by
      rw [← h2.len, List.getElem?_append_right (Nat.le_refl _)]
      simp
    obtain ⟨c1, hc1⟩ := pick_split (b := ρ' ++ [⟨p.b, .slice (some ⟨p.b, 0, none⟩) 1 1, 0⟩]) hρ l4
    rw [← List.append_assoc] at hc1
    refine ⟨u, c1, rfl, ?_, ?_⟩
    · rw [← hc1]
      refine svV_pick l1 (svSame_ok l2 ?_)
      have h4 : CV.den (ρ ++ ρ') (.sl k 0 1 1) = some u := h1
      simp only [CV.den, hp'] at h4
      show CV.den _ (.row h1'.length) = some u
      simp only [CV.den, hk, one, if_true]
      exact h4
    · rw [← hc1]; exact h3.pickL l5 l3
end Go.Proofs.YthomoliklfmnkaaDoor.Vx
end
