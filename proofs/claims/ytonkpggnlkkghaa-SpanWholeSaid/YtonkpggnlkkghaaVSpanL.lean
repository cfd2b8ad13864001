/- slices.Clone and slices.Sort of integers, as contracts for the walker. -/
import Derived.Test.YtonkpggnlkkghaaVSpan
import Derived.Test.YtonkpggnlkkghaaShelf
import Derived.Sort.OwnSortedInts
namespace Go.Proofs.Ytonkpggnlkkghaa.Vx
open Go.RowKit Span
set_option linter.unusedVariables false
set_option linter.unusedSimpArgs false
theorem ownsRow_base0 {W : World} {b : Nat} {e : TypeId} {sz n : Nat} {v : Value} {xs : List Value} (h : W.ownsRow b e sz v n xs) : W.ownsRow 0 e sz v n xs :=
  ⟨h.1, h.2.imp id fun ⟨g, cap, cur, h1, _, h3⟩ => ⟨g, cap, cur, h1, Nat.zero_le _, h3⟩⟩
/-- Cells that are known to be integers. -/
theorem ints_of {n : Nat} {get : Nat → List CV} {vs : List Value} (h : InAt n get) (hl : vs.length = n) (hv : ∀ i, i < n → IsL [] (get i) ((vs.drop (i * 1)).take 1)) : vs = (iL n get).map (Value.int .i64) := by
  apply List.ext_getElem?
  intro i
  by_cases hi : i < n
  · obtain ⟨a, ea⟩ := h i hi
    have h1 := hv i hi
    rw [ea] at h1
    have h2 : (vs.drop (i * 1)).take 1 = [.int .i64 a] := h1.unique (show IsL [] [.int .i64 a] [.int .i64 a] from rfl)
    have h3 : vs[i]? = some (.int .i64 a) := by
      have := congrArg (fun l => l[0]?) h2
      simpa using this
    rw [h3, List.getElem?_map]
    have h4 : (iL n get)[i]? = some a := by
      unfold iL
      rw [List.getElem?_map, List.getElem?_range hi]
      simp [ea, iOf]
    rw [h4]
    rfl
  · rw [List.getElem?_eq_none (by omega), List.getElem?_eq_none (by simp [iL_len]; omega)]
theorem row_ints (zs : List Int) (i : Nat) (hi : i < zs.length) : IsL [] (inG zs i) (((zs.map (Value.int .i64)).drop (i * 1)).take 1) := by
  have h1 : ((zs.map (Value.int .i64)).drop (i * 1)).take 1 = [.int .i64 (iA zs i)] := by
    rw [Nat.mul_one, List.drop_eq_getElem_cons (by simpa using hi)]
    simp [iA, List.getD, hi]
  rw [h1]
  rfl
def sortPre (n : Nat) (get : Nat → List CV) : Prop := InAt n get ∧ n ≤ 1000000
def appSort : App := fun args h => match args with
  | [.c (.row k)] => match h[k]? with
    | some (.row e sz n get) => match Nat.beq e 3 && Nat.beq sz 1 with
      | true => some ⟨sortPre n get, .tup [], h.set k (.row 3 1 n (inG (srt (iL n get)))), [k]⟩
      | false => none
    | _ => none
  | _ => none
theorem srt_len (l : List Int) : (srt l).length = l.length := by unfold srt; exact List.length_mergeSort l
/-- Another entry is said of what lies at a place. -/
theorem Rel.setE {w0 : World} {G : List Nat} {ρ : List Pl} {h : List Ent} {W : World} (r : Rel w0 G ρ h W) {i : Nat} {p : Pl} {e0 en : Ent} (hi : h[i]? = some e0) (hp : ρ[i]? = some p) (hf : en.fp p = e0.fp p) (hen : en.isElems = false) (hok : en.ok ρ p W) : Rel w0 G ρ (h.set i en) W := by
  have hlt : i < h.length := (List.getElem?_eq_some_iff.1 hi).1
  have hget : ∀ j e, (h.set i en)[j]? = some e → (j = i ∧ e = en) ∨ (j ≠ i ∧ h[j]? = some e) := fun j e he => by
    by_cases hj : j = i
    · subst hj
      rw [List.getElem?_set_self hlt] at he
      exact Or.inl ⟨rfl, (Option.some.inj he).symm⟩
    · rw [List.getElem?_set_ne (fun e => hj e.symm)] at he
      exact Or.inr ⟨hj, he⟩
  have hfp : ∀ j b, fp ρ (h.set i en) j = some b → fp ρ h j = some b := fun j b hf' => by
    obtain ⟨e, q, he, hq, hx⟩ := fp_some hf'
    rcases hget j e he with ⟨rfl, rfl⟩ | ⟨hj, he'⟩
    · rw [hp] at hq
      cases hq
      rw [fp_mk hi hp, ← hf]; exact hx
    · rw [fp_mk he' hq]; exact hx
  refine ⟨by rw [List.length_set]; exact r.len, fun j e q he hq => ?_, fun j b hf' => r.own j b (hfp j b hf'), fun j k b h1 h2 => r.dis j k b (hfp j b h1) (hfp k b h2), r.kept, fun j e q b he hq h1 h2 => ?_, r.os, r.tape, r.output, r.size⟩
  · rcases hget j e he with ⟨rfl, rfl⟩ | ⟨hj, he'⟩
    · rw [hp] at hq
      cases hq
      exact hok
    · exact r.ok j e q he' hq
  · rcases hget j e he with ⟨rfl, rfl⟩ | ⟨hj, he'⟩
    · rw [hen] at h1; cases h1
    · exact r.ro j e q b he' hq h1 h2
theorem sortCt : CtOk Try.prog 35 appSort := by
  have hsp : ∀ args h r, appSort args h = some r → ∃ k n get, args = [.c (.row k)] ∧ h[k]? = some (.row 3 1 n get) ∧ r = ⟨sortPre n get, .tup [], h.set k (.row 3 1 n (inG (srt (iL n get)))), [k]⟩ := fun args h r hr => by
    unfold appSort at hr
    split at hr
    · rename_i k
      split at hr
      · rename_i e sz n get hk
        split at hr
        · rename_i hb
          rw [Bool.and_eq_true] at hb
          obtain rfl := Nat.eq_of_beq_eq_true hb.1
          obtain rfl := Nat.eq_of_beq_eq_true hb.2
          exact ⟨k, n, get, rfl, hk, (Option.some.inj hr).symm⟩
        · cases hr
      · cases hr
    · cases hr
  refine ⟨callable_spec (by kernel_rfl), fun args h r hr => ?_, fun args h r hr hpre ρ W us rel hus => ?_⟩
  · obtain ⟨k, n, get, rfl, hk, rfl⟩ := hsp args h r hr
    refine ⟨by simp, fun j hj hn => ?_, fun j e he hel => ?_⟩
    · rw [List.getElem?_set_ne (fun e => hn (by simp [e]))]
    · by_cases hj : j = k
      · subst hj
        rw [List.getElem?_set_self (List.getElem?_eq_some_iff.1 hk).1] at he
        cases he
        cases hel
      · rwa [List.getElem?_set_ne (fun e => hj e.symm)] at he
  · obtain ⟨k, n, get, rfl, hk, rfl⟩ := hsp args h r hr
    obtain ⟨hin, hn⟩ : sortPre n get := hpre
    obtain ⟨v, us', rfl, hv, hus'⟩ := hus
    cases hus'
    obtain ⟨p, hp, hok⟩ := rel.place hk
    obtain ⟨vs, ⟨g1, g2, g3⟩, g4⟩ := hok
    obtain ⟨q, hq, hvq⟩ := den_row hv
    rw [hp] at hq
    obtain rfl := Option.some.inj hq
    subst hvq
    have hvs := ints_of hin (by have := g4.1; omega) g1
    have hzl : (iL n get).length = n := iL_len
    have hsl : (srt (iL n get)).length = n := by rw [srt_len, hzl]
    have hkp : ∀ W', W'.ownsRow 0 3 1 p.v n ((srt (iL n get)).map (Value.int .i64)) → Ent.ok ρ p W' (.row 3 1 n (inG (srt (iL n get)))) := fun W' ho =>
      ⟨_, ⟨fun i hi => row_ints _ i (by omega), g2, g3⟩, ho⟩
    rcases g4.2 with ⟨hpv, hn0⟩ | ⟨g, cap, cur, hpv, _, hh, hc1, hc2, hc3, hc4⟩
    · rw [hpv]
      refine Calls.mono (Try.slices_Sort_int_none none 0 W) fun e W' he => ?_
      obtain ⟨rfl, rfl⟩ := he
      refine ⟨_, [], rfl, ⟨[], rfl, rfl⟩, ?_⟩
      rw [List.append_nil]
      refine rel.setE hk hp rfl rfl (hkp _ ?_)
      rw [hpv]
      subst hn0
      refine ⟨by simp [hsl], Or.inl ⟨rfl, rfl⟩⟩
    · rw [hpv]
      have hgl : g < W.heap.size := (Array.getElem?_eq_some_iff.1 hh).1
      have hH := holds_of_blockI (ss := iL n get) hh (by rw [hzl, ← Nat.mul_one n, hc4, hvs]; simp)
      have hcall := Try.slices_Sort_int g 0 cap (iL n get) W hH hgl (by omega)
      rw [hzl] at hcall
      refine Calls.mono hcall fun e W' he => ?_
      obtain ⟨rfl, m, os, rfl⟩ := he
      refine ⟨_, [], rfl, ⟨[], rfl, rfl⟩, ?_⟩
      rw [List.append_nil]
      have hr1 : Rel W (Fps ρ h) ρ (h.set k (.row 3 1 n (inG (srt (iL n get))))) (Sort.putRow (Value.int .i64) (Sort.ahead W m) g 0 (srt (iL n get)).toArray) := by
        refine rel.turn (b0 := g) hk hp (by simp [Ent.fp, hpv, Value.ownBlock]) (by simp [Ent.fp, hpv, Value.ownBlock]) rfl (hkp _ ?_) (fun b hb => ?_) (by simp [Sort.ahead]) rfl rfl rfl
        · rw [hpv]
          have := ownsRow_sortedI (w := W) (base := 0) (g := g) (cap := cap) (n := m) (os := #[]) (ss := iL n get) (ts := srt (iL n get)) (srt_len _) (Nat.zero_le _) hh (by omega) hc2 hc3
          rw [Sort.grow_empty, hzl] at this
          exact this
        · have : g ≠ b := fun e => hb e.symm
          simp [Sort.putRow, Sort.mapBlock, Sort.ahead, Array.getElem?_modify, this]
      refine hr1.belowStep ⟨rfl, rfl, rfl, by simp, fun j hj => ?_⟩
      exact Sort.heap_grow_old _ _ hj
def sCloneI : SpecF
  | [.c (.row 0)], [.elems ty one n get] => some (inPre ty one n get, .c (.row 1), [.dead, .row 3 1 n (inG (iL n get))])
  | _, _ => none
theorem cloneIP : Fn Try.prog 34 [] [(3, 1)] sCloneI := by
  refine ⟨by kernel_rfl, fun args h pre res h' hs => ?_, fun args h pre res h' hs hp ρ W us rel hus => ?_⟩
  · unfold sCloneI at hs
    split at hs
    · cases hs; exact ⟨rfl, Nat.le_of_ble_eq_true rfl⟩
    · cases hs
  · unfold sCloneI at hs
    split at hs
    rotate_left
    · cases hs
    rename_i ty one n get
    cases hs
    obtain ⟨rfl, rfl, hin, hn⟩ := hp
    obtain ⟨v, us', rfl, hv, hus'⟩ := hus
    cases hus'
    obtain ⟨p, hpl, hok⟩ := rel.place (k := 0) rfl
    obtain ⟨q, hq, hvq⟩ := den_row hv
    rw [hpl] at hq
    obtain rfl := Option.some.inj hq
    subst hvq
    obtain ⟨⟨a, cap, hpv, hcap, ha⟩, hcells⟩ := hok
    have hzl : (iL n get).length = n := iL_len
    have hcell : ∀ j, j < n → W.cell? ⟨p.b, p.o + j, none⟩ = some (.int .i64 ((iL n get).getD j 0)) := fun j hj => by
      obtain ⟨vs, h1, h2⟩ := hcells j hj
      rw [hin.eq hj] at h1
      obtain rfl : [Value.int .i64 (iA (iL n get) j)] = vs := (show IsL [] (inG (iL n get) j) [.int .i64 (iA (iL n get) j)] from rfl).unique h1
      have := h2 0 _ rfl
      rw [Nat.mul_one, Nat.add_zero] at this
      exact this
    have fin : ∀ (v' : Value) (W' : World), W'.ownsRow W.heap.size 3 1 v' n ((iL n get).map (Value.int .i64)) → Below W.heap.size W W' → ∃ ρ', (SV.c (.row 1)).is (ρ ++ ρ') v' ∧ Rel W (Fps ρ [.elems 3 1 n get]) (ρ ++ ρ') [.dead, .row 3 1 n (inG (iL n get))] W' := fun v' W' ho hb => by
      have hone : one v' = true := by rcases ho.2 with ⟨rfl, _⟩ | ⟨g, c, cur, rfl, _⟩ <;> rfl
      have hlen := rel.len
      simp only [List.length_cons, List.length_nil] at hlen
      have hr := rel.bornE (W' := W') (en := .row 3 1 n (inG (iL n get))) (q0 := plB v') ⟨_, ⟨fun i hi => row_ints _ i (by omega), rfl, plB_own⟩, ownsRow_base0 ho⟩ rfl (fun b hb2 => ?_)
        ⟨hb.os, hb.tape, hb.output, hb.size, fun j hj _ => hb.block j hj⟩ (fun b hb2 => ?_)
      · refine ⟨[plB v'], ?_, hr.forget (fun j e he => ?_) rfl⟩
        · show CV.den _ (.row 1) = some v'
          simp only [CV.den]
          rw [List.getElem?_append_right (by omega), show 1 - ρ.length = 0 by omega]
          simp [plB, hone]
        · cases j with
          | zero => left; exact (Option.some.inj he).symm
          | succ j => right; exact he
      · rcases ho.2 with ⟨rfl, _⟩ | ⟨g, c, cur, rfl, h1, h2, _⟩
        · simp [Ent.fp, plB, Value.ownBlock] at hb2
        · simp [Ent.fp, plB, Value.ownBlock] at hb2
          subst hb2
          exact (Array.getElem?_eq_some_iff.1 h2).1
      · rcases ho.2 with ⟨rfl, _⟩ | ⟨g, c, cur, rfl, h1, h2, _⟩
        · simp [Ent.fp, plB, Value.ownBlock] at hb2
        · simp [Ent.fp, plB, Value.ownBlock] at hb2
          subst hb2
          exact h1
    rw [hpv]
    cases a with
    | none =>
      obtain rfl : n = 0 := by
        rcases Nat.eq_zero_or_pos n with h0 | h0
        · exact h0
        · have := ha h0; cases this
      refine Calls.mono (Try.slices_Clone_int_nil 0 cap W) fun e W' he => ?_
      obtain ⟨rfl, rfl⟩ := he
      obtain ⟨ρ', f1, f2⟩ := fin (.slice none 0 0) W' ⟨rfl, Or.inl ⟨rfl, rfl⟩⟩ (Below.refl _ _)
      exact ⟨_, ρ', rfl, f1, f2⟩
    | some ad =>
      rcases Nat.eq_zero_or_pos n with h0 | h0
      · subst h0
        refine Calls.mono (Try.slices_Clone_int_zero ad cap W) fun e W' he => ?_
        obtain ⟨v', rfl, ho, _, hb⟩ := he
        obtain ⟨ρ', f1, f2⟩ := fin v' W' ho hb
        exact ⟨_, ρ', rfl, f1, f2⟩
      · obtain rfl := Option.some.inj (ha h0)
        refine Calls.mono (Try.slices_Clone_int p.b p.o n cap (iL n get) W (by omega) (by omega) (fun j hj => hcell j (by omega))) fun e W' he => ?_
        obtain ⟨v', rfl, ho, _, hb⟩ := he
        rw [List.take_of_length_le (by omega)] at ho
        obtain ⟨ρ', f1, f2⟩ := fin v' W' ho hb
        exact ⟨_, ρ', rfl, f1, f2⟩
end Go.Proofs.Ytonkpggnlkkghaa.Vx
