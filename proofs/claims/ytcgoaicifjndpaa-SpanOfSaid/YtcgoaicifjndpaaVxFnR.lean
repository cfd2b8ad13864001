/- Contracts of functions whose code is walked in parts (Runs.cut). -/
import Derived.Test.YtcgoaicifjndpaaM13
import Derived.Test.YtcgoaicifjndpaaVxFrame
namespace Go.Proofs.Ytcgoaicifjndpaa.Vx
open Go.RowKit
set_option linter.unusedVariables false
set_option linter.unusedSimpArgs false
theorem fn_okR {P : Program} {A : Arith} {E : Tbl} (hA : A = .std) (hE : E.Ok P)
    {f : FuncId} {fn : Func} {c : Code} {n : Nat} {res : List ResultVar} (hf : P.funcs[f]? = some fn) (hb : fn.body = some c) (hn : fn.ntmps = n) (hr : fn.results.toList = res)
    {args : List SV} {us : List Value} {ρ : List Pl} {h : List Ent} {w0 w : World} {G : Gs} (r : Rel w0 G ρ h w) (hs : IsS ρ args us) (Q : SV → List Ent → Prop)
    (hx : Runs P h.length c ⟨args ++ List.replicate (n - args.length) .und, h⟩ (fin A E res Q)) :
    Calls P f us.toArray w fun e W' => ∃ v u ρ' h', e = .returned u ∧ v.is (ρ ++ ρ') u ∧ Rel w0 G (ρ ++ ρ') h' W' ∧ Q v h' := by
  refine calls_of_wp hf hb ?_
  have hlen := hs.len
  have hargs : IsS ρ (args ++ List.replicate (n - args.length) .und) (us.toArray ++ Array.replicate (fn.ntmps - us.toArray.size) undef).toList := by
    simp only [Array.toList_append, Array.toList_replicate, List.size_toArray, hn, ← hlen]
    exact hs.append (IsS.undefs _)
  refine Code.wp_mono (fun e a W hq => ?_) (hx.run w0 G ρ [] _ w r.len (by rw [List.append_nil]; exact r) (by rw [List.append_nil]; exact hargs) rfl)
  obtain ⟨ex, st, ρ', he, r', hs', hd, hk⟩ := hq
  rw [← hr, hA] at hk
  obtain ⟨v, y, h1, h2, h3⟩ := fin_ok (P := P) hE r' hs' hk
  cases ex with
  | normal =>
    cases e <;> try exact (show False from he).elim
    exact bodyPost_end h2 hd ⟨v, y, ρ', st.h, rfl, h1, r', h3⟩
  | exit i => exact (show False from hk).elim
  | ret =>
    cases e <;> try exact (show False from he).elim
    exact bodyPost_ret h2 hd ⟨v, y, ρ', st.h, rfl, h1, r', h3⟩
theorem Fn.ofR {P : Program} {E : Tbl} (hE : E.Ok P)
    {f : FuncId} {fn : Func} {c : Code} {n : Nat} {res : List ResultVar} (hf : P.funcs[f]? = some fn) (hb : fn.body = some c) (hn : fn.ntmps = n) (hr : fn.results.toList = res) (hcall : callable P f = true)
    (m : Nat) (ty' : TypeId) (sz' : Nat) {gs : List Nat} {vt : List (Nat × Nat)} {spec : SpecF} (hpf : ∀ args h pre r h', spec args h = some (pre, r, h') → noKept h' = true ∧ h.length = m ∧ m ≤ h'.length)
    (hx : ∀ args h pre r h', spec args h = some (pre, r, h') → pre → ∃ hs, hSame h hs ∧ Runs P m c ⟨args ++ List.replicate (n - args.length) .und, hs⟩ (fin .std E res fun v hf => ∃ σ, LeftF ty' sz' m σ v hf r h')) : Fn P f gs vt spec := by
  refine ⟨hcall, fun args h pre r h' hs => ⟨(hpf _ _ _ _ _ hs).1, by rw [(hpf _ _ _ _ _ hs).2.1]; exact (hpf _ _ _ _ _ hs).2.2⟩, fun args h pre r h' hs hp o ρ W us rel hus => ?_⟩
  obtain ⟨hh, hw, hx'⟩ := hx args h pre r h' hs hp
  have hm1 : h.length = m := (hpf _ _ _ _ _ hs).2.1
  have hl : hh.length = m := by rw [(hSame_get hw).1, hm1]
  have hρ : ρ.length = m := by rw [rel.len, hm1]
  refine Calls.mono (fn_okR (h := hh) rfl hE hf hb hn hr (rel.same hw) hus _ (by rw [hl]; exact hx')) fun e W' he => ?_
  obtain ⟨v, u, ρ', h1', rfl, h1, h2, σ, l1, l2, l3, l4, l5⟩ := he
  have h3 := h2.addNil ty' sz' (fun _ => [])
  have hk : ((ρ ++ ρ') ++ [(⟨0, .slice none 0 0, 0⟩ : Pl)])[h1'.length]? = some ⟨0, .slice none 0 0, 0⟩ := by
    rw [← h2.len, List.getElem?_append_right (Nat.le_refl _)]
    simp
  obtain ⟨c1, hc1⟩ := pick_split (b := ρ' ++ [⟨0, .slice none 0 0, 0⟩]) hρ l4
  rw [← List.append_assoc] at hc1
  refine ⟨u, c1, rfl, ?_, ?_⟩
  · rw [← hc1]; exact svV_pick l1 (svSameN_ok l2 hk (SV.is_app h1 _))
  · rw [← hc1]; exact h3.pickL l5 l3
end Go.Proofs.Ytcgoaicifjndpaa.Vx
