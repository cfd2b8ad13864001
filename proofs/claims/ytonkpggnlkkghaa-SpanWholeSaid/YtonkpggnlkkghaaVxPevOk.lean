/- The walker's operations that only compute or read: that each comes to what is said. -/
import Derived.Test.YtonkpggnlkkghaaVxPev
import Derived.Laws.Tables
namespace Go.Proofs.Ytonkpggnlkkghaa.Vx
open Go.RowKit
set_option linter.unusedVariables false
set_option linter.unusedSimpArgs false

def PR.givesN (ρ : List Pl) (P : Program) (S : World → Prop) (m : Sem Next) : PR → Prop
  | .ok v => ∃ u, v.is ρ u ∧ ∀ W, S W → m.run P W = .ok (.value u) W
  | .okp pre v => pre → ∃ u, v.is ρ u ∧ ∀ W, S W → m.run P W = .ok (.value u) W
  | .split b x y => ∃ u, (if b then x else y).is ρ u ∧ ∀ W, S W → m.run P W = .ok (.value u) W
  | .okps pre b x y => pre → ∃ u, (if b then x else y).is ρ u ∧ ∀ W, S W → m.run P W = .ok (.value u) W
  | .no => True

theorem PR.lift {ρ : List Pl} {P : Program} {S : World → Prop} {m : Sem Value} {r : PR} (h : r.gives ρ P S m) : r.givesN ρ P S (do pure (Next.value (← m))) := by
  have key : ∀ {u : Value}, (∀ W, S W → m.run P W = .ok u W) → ∀ W, S W → (do pure (Next.value (← m)) : Sem Next).run P W = .ok (.value u) W := fun hu W hW => by
    rw [Sem.run_bind, hu W hW]; rfl
  cases r with
  | ok v => obtain ⟨u, h1, h2⟩ := h; exact ⟨u, h1, key h2⟩
  | okp pre v => intro hp; obtain ⟨u, h1, h2⟩ := h hp; exact ⟨u, h1, key h2⟩
  | split b x y => obtain ⟨u, h1, h2⟩ := h; exact ⟨u, h1, key h2⟩
  | okps pre b x y => intro hp; obtain ⟨u, h1, h2⟩ := h hp; exact ⟨u, h1, key h2⟩
  | no => trivial

def MemOk (ρ : List Pl) (h : List Ent) (W : World) : Prop := ∀ (k : Nat) (e : Ent) (p : Pl), h[k]? = some e → ρ[k]? = some p → e.ok ρ p W

theorem ag_ok {ρ : List Pl} {cs : List CV} {vs : List Value} (h : IsL ρ cs vs) (b : Bool) (off size : Nat) :
    match ag b cs off size with
    | .ok v => ∃ u, v.is ρ u ∧ (if b then (off + size ≤ vs.length ∧ u = .agg ((vs.drop off).take size).toArray) else vs[off]? = some u)
    | .no => True
    | _ => False := by
  unfold ag
  cases b with
  | true =>
    by_cases hn : off + size ≤ cs.length
    · simp only [if_true, Nat.ble_eq, hn]
      exact ⟨_, ⟨_, (h.drop off).take size, rfl⟩, by rw [← h.len]; exact hn, rfl⟩
    · simp only [if_true, Nat.ble_eq, hn, if_false]
  | false =>
    simp only [Bool.false_eq_true, if_false]
    cases hc : cs[off]? with
    | none => trivial
    | some x =>
      obtain ⟨u, h1, h2⟩ := h.get hc
      exact ⟨u, h2, h1⟩

theorem isL_setMany {ρ : List Pl} : ∀ {xs cs : List CV} {us vs : List Value} (o : Nat), IsL ρ xs us → IsL ρ cs vs → IsL ρ (setMany cs o xs) ((us.zipIdx.foldl (fun cs (c, j) => cs.setIfInBounds (o + j) c) vs.toArray).toList)
  | [], cs, us, vs, o, hx, hc => by
    cases us with
    | nil => exact hc
    | cons => simp [IsL] at hx
  | x :: xs, cs, us, vs, o, hx, hc => by
    cases us with
    | nil => simp [IsL] at hx
    | cons u us =>
      simp only [IsL, List.map_cons, List.cons.injEq] at hx
      have ih := isL_setMany (xs := xs) (us := us) (o + 1) hx.2 (hc.set o hx.1)
      simp only [setMany]
      simp only [List.zipIdx_cons, List.foldl_cons, Nat.add_zero, List.setIfInBounds_toArray]
      rw [List.zipIdx_eq_map_add, List.foldl_map]
      have e : ∀ j, o + (0 + 1 + j) = o + 1 + j := fun j => by omega
      have e2 : (fun (x : Array Value) (y : Value × Nat) => x.setIfInBounds (o + (y.2 + (0 + 1))) y.1) = fun x y => x.setIfInBounds (o + 1 + y.2) y.1 := by
        funext x y; rw [show o + (y.2 + (0 + 1)) = o + 1 + y.2 by omega]
      first
        | (rw [e2]; exact ih)
        | (simpa [Nat.add_assoc, Nat.add_comm, Nat.add_left_comm] using ih)

theorem svCells_ok {ρ : List Pl} {v : SV} {u : Value} {xs : List CV} (h : v.is ρ u) (hc : svCells v = some xs) : ∃ us, IsL ρ xs us ∧ u.cells = us.toArray := by
  cases v with
  | c x =>
    simp only [svCells, Option.some.injEq] at hc
    subst hc
    have h1 := CV.den_oneCell h
    refine ⟨[u], IsL.cons h (IsL.nil ρ), ?_⟩
    cases u <;> first | rfl | cases h1
  | agg cs =>
    simp only [svCells, Option.some.injEq] at hc
    subst hc
    obtain ⟨vs, h1, rfl⟩ := h
    exact ⟨vs, h1, rfl⟩
  | _ => cases hc

def IsP (ρ : List Pl) : List (Nat × SV) → List (Nat × Value) → Prop
  | [], us => us = []
  | e :: es, us => ∃ u us', us = (e.1, u) :: us' ∧ e.2.is ρ u ∧ IsP ρ es us'

theorem fill_ok {ρ : List Pl} {pl : Nat → Option (Nat × Nat)} : ∀ {ps : List (Nat × SV)} {qs : List (Nat × Value)} {cs : List CV} {vs : List Value} {cs' : List CV}, IsP ρ ps qs → IsL ρ cs vs → fillC pl cs ps = some cs' →
    ∃ vs', IsL ρ cs' vs' ∧ Instr.fill pl vs.toArray qs = some vs'.toArray
  | [], qs, cs, vs, cs', hp, hc, h => by
    cases hp
    simp only [fillC, Option.some.injEq] at h
    subst h
    exact ⟨vs, hc, rfl⟩
  | (i, v) :: ps, qs, cs, vs, cs', hp, hc, h => by
    obtain ⟨u, qs', rfl, h1, h2⟩ := hp
    simp only [fillC] at h
    split at h
    · rename_i o n xs hpl hxs
      split at h
      · rename_i hb
        simp only [Bool.and_eq_true, Nat.beq_eq, Nat.ble_eq] at hb
        obtain ⟨us, hu1, hu2⟩ := svCells_ok h1 hxs
        have hset := isL_setMany o hu1 hc
        obtain ⟨vs', hv1, hv2⟩ := fill_ok h2 hset h
        refine ⟨vs', hv1, ?_⟩
        have e1 : us.length = n := by rw [← hu1.len]; exact hb.1
        have e2 : vs.length = cs.length := hc.len.symm
        have e3 : ¬ (us.toArray.size ≠ n || decide (o + us.toArray.size > vs.toArray.size)) = true := by
          simp [e1, e2]
          exact hb.2
        simp only [Instr.fill, hpl, hu2]
        rw [if_neg e3]
        have e4 : us.toArray.zipIdx.foldl (fun cs (c, j) => cs.setIfInBounds (o + j) c) vs.toArray = (us.zipIdx.foldl (fun cs (c, j) => cs.setIfInBounds (o + j) c) vs.toArray) := by
          simp
        rw [e4]
        simpa using hv2
      · cases h
    · cases h

theorem fieldsOf_get {P : Program} : ∀ {fs : List Field} {r : List (Nat × Nat × Bool)}, fieldsOf P fs = some r → ∀ {j : Nat} {o n : Nat} {b : Bool}, r[j]? = some (o, n, b) →
    ∃ f i d, fs[j]? = some f ∧ P.info? f.type = some i ∧ P.underlying f.type = some d ∧ f.offset = o ∧ i.size = n ∧ aggD d = b
  | [], r, h, j, o, n, b, hj => by simp [fieldsOf] at h; subst h; simp at hj
  | f :: fs, r, h, j, o, n, b, hj => by
    simp only [fieldsOf] at h
    split at h
    · rename_i i d r' hi hd hr
      simp only [Option.some.injEq] at h
      subst h
      cases j with
      | zero =>
        simp only [List.getElem?_cons_zero, Option.some.injEq, Prod.mk.injEq] at hj
        exact ⟨f, i, d, rfl, hi, hd, hj.1, hj.2.1, hj.2.2⟩
      | succ j => simpa using fieldsOf_get hr (by simpa using hj)
    · cases h

theorem fieldsOf_places {P : Program} : ∀ {fs : List Field} {r : List (Nat × Nat × Bool)}, fieldsOf P fs = some r → fs.mapM (fun f => (P.info? f.type).map fun i => (f.offset, i.size)) = some (r.map fun q => (q.1, q.2.1))
  | [], r, h => by simp [fieldsOf] at h; subst h; rfl
  | f :: fs, r, h => by
    simp only [fieldsOf] at h
    split at h
    · rename_i i d r' hi hd hr
      simp only [Option.some.injEq] at h
      subst h
      simp [List.mapM_cons, hi, fieldsOf_places hr]
    · cases h

theorem kd_struct {P : Program} {d : TypeDesc} {r : List (Nat × Nat × Bool)} (h : kdOf P d = .struct r) : ∃ fs, d = .struct fs ∧ fieldsOf P fs.toList = some r := by
  cases d <;> simp only [kdOf] at h <;> try (cases h; done)
  rename_i fs
  split at h
  · rename_i r' hr
    simp only [Kd.struct.injEq] at h
    subst h
    exact ⟨fs, rfl, hr⟩
  · cases h
theorem kd_str {P : Program} {d : TypeDesc} (h : kdOf P d = .str) : d = .string := by
  cases d <;> simp only [kdOf] at h <;> try (cases h; done)
  · rfl
  · split at h <;> cases h
theorem kd_bool {P : Program} {d : TypeDesc} (h : kdOf P d = .bool) : d = .bool := by
  cases d <;> simp only [kdOf] at h <;> try (cases h; done)
  · rfl
  · split at h <;> cases h
theorem kd_int {P : Program} {d : TypeDesc} {k : IntKind} (h : kdOf P d = .int k) : d = .int k := by
  cases d <;> simp only [kdOf] at h <;> try (cases h; done)
  · cases h; rfl
  · split at h <;> cases h

theorem fieldRow_ok {P : Program} {E : Tbl} (hE : E.Ok P) {t f o n : Nat} {b : Bool} (h : fieldRow E t f = some (o, n, b)) :
    ∃ fs fd i d, P.underlying t = some (.struct fs) ∧ fs[f]? = some fd ∧ P.info? fd.type = some i ∧ P.underlying fd.type = some d ∧ fd.offset = o ∧ i.size = n ∧ aggD d = b := by
  unfold fieldRow at h
  split at h
  · rename_i ti hti
    split at h
    · rename_i r hr
      obtain ⟨i0, d0, z0, T⟩ := TI.spec (hE.T t ti hti)
      obtain ⟨fs, hd, hf⟩ := kd_struct (T.kd.symm.trans hr)
      obtain ⟨fd, i, d, h1, h2, h3, h4, h5, h6⟩ := fieldsOf_get hf h
      exact ⟨fs, fd, i, d, by rw [T.und, hd], by simpa using h1, h2, h3, h4, h5, h6⟩
    · cases h
  · cases h

theorem run_isAgg {P : Program} {t : TypeId} {d : TypeDesc} (h : P.underlying t = some d) (W : World) : (isAgg t).run P W = .ok (aggD d) W := by
  unfold isAgg
  rw [Sem.run_bind, run_underlying h W]
  cases d <;> rfl
theorem run_sizeOf' {P : Program} {t : TypeId} {i : TypeInfo} (h : P.info? t = some i) (W : World) : (sizeOf t).run P W = .ok i.size W := by
  simp [sizeOf, typeInfo, h]

theorem run_part {P : Program} {t : TypeId} {i : TypeInfo} {d : TypeDesc} (hi : P.info? t = some i) (hd : P.underlying t = some d) {vs : List Value} {off : Nat} {u : Value}
    (h : if aggD d then (off + i.size ≤ vs.length ∧ u = .agg ((vs.drop off).take i.size).toArray) else vs[off]? = some u) (W : World) : (part t vs.toArray off).run P W = .ok u W := by
  unfold part
  rw [Sem.run_bind, run_isAgg hd W, Result.andThen_ok]
  cases ha : aggD d with
  | true =>
    rw [ha] at h
    simp only [if_true] at h ⊢
    rw [Sem.run_bind, run_sizeOf' hi W, Result.andThen_ok, h.2]
    simp only [Sem.run_pure, Result.ok.injEq, Value.agg.injEq, and_true]
    apply Array.ext'
    simp [List.extract_eq_take_drop]
  | false =>
    rw [ha] at h
    simp only [Bool.false_eq_true, if_false] at h ⊢
    have : vs.toArray[off]? = some u := by simpa using h
    rw [this]
    rfl

theorem run_loadVar {P : Program} {t : TypeId} {i : TypeInfo} {d : TypeDesc} (hi : P.info? t = some i) (hd : P.underlying t = some d) {vs : List Value} {off b : Nat} {ty : TypeId} {u : Value} {W : World}
    (hW : W.heap[b]? = some (.cells vs.toArray ty (0, 0)))
    (h : if aggD d then (off + i.size ≤ vs.length ∧ u = .agg ((vs.drop off).take i.size).toArray) else vs[off]? = some u) : (loadVar t ⟨b, off, none⟩).run P W = .ok u W := by
  cases ha : aggD d with
  | true =>
    rw [ha] at h
    simp only [if_true] at h
    rw [h.2]
    refine run_loadVar_mid W b off t _ d (fun j v hv => ?_) hd (by cases d <;> first | rfl | cases ha) (by simp [hi]; omega)
    rw [cell_of_row W b (off + j) _ ty (0, 0) hW]
    simp only [List.getElem?_take, List.getElem?_drop] at hv
    split at hv
    · simpa using hv
    · cases hv
  | false =>
    rw [ha] at h
    simp only [Bool.false_eq_true, if_false] at h
    unfold loadVar
    rw [Sem.run_bind, run_isAgg hd W, Result.andThen_ok, ha]
    simp only [Bool.false_eq_true, if_false, run_load]
    rw [cell_of_row W b off _ ty (0, 0) hW]
    have : vs.toArray[off]? = some u := by simpa using h
    rw [this]

theorem PR.ag_gives {ρ : List Pl} {P : Program} {S : World → Prop} {m : Sem Value} {cs : List CV} {vs : List Value} (h : IsL ρ cs vs) (b : Bool) (off size : Nat)
    (hm : ∀ u, (if b then (off + size ≤ vs.length ∧ u = .agg ((vs.drop off).take size).toArray) else vs[off]? = some u) → ∀ W, S W → m.run P W = .ok u W) : (ag b cs off size).gives ρ P S m := by
  have := ag_ok h b off size
  split at this
  · rename_i v hv
    obtain ⟨u, h1, h2⟩ := this
    rw [hv]
    exact ⟨u, h1, hm u h2⟩
  · rename_i hv
    rw [hv]; exact trivial
  · cases this

theorem bnd_ok {ρ : List Pl} {e : Operand → SV} {a : Operand → Value} (he : ∀ x, (e x).is ρ (a x)) {d : Int} {lo : Option Operand} {n : Int} (h : bnd d (lo.map e) = some n) :
    (lo = none ∧ n = d) ∨ (∃ x k, lo = some x ∧ a x = .int k n) := by
  cases lo with
  | none => simp [bnd] at h; exact Or.inl ⟨rfl, h.symm⟩
  | some x =>
    right
    simp only [Option.map_some] at h
    have hx := he x
    cases hv : e x with
    | c y =>
      rw [hv] at h hx
      cases y <;> simp [bnd] at h
      subst h
      have hx' : some (Value.int _ _) = some (a x) := hx
      exact ⟨x, _, rfl, (Option.some.inj hx').symm⟩
    | _ => rw [hv] at h; simp [bnd] at h
end Go.Proofs.Ytonkpggnlkkghaa.Vx
