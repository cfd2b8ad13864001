/- The walker's operations that only compute or read: that each comes to what is said. -/
import Derived.Test.YthomoliklfmnkaaDoorM1
import Derived.Laws.Tables
import Derived.MapKept
import Derived.WideKeyRuns
section
namespace Go.Proofs.YthomoliklfmnkaaDoor.Vx
open Go.RowKit
set_option linter.unusedVariables false
set_option linter.unusedSimpArgs false

def PR.givesN (ρ : List Pl) (P : Program) (S : World → Prop) (m : Sem Next) : PR → Prop
  | .ok v => ∃ u, v.is ρ u ∧ ∀ W, S W → m.run P W = .ok (.value u) W
  | .okp pre v => pre → ∃ u, v.is ρ u ∧ ∀ W, S W → m.run P W = .ok (.value u) W
  | .split b x y => ∃ u, (if b then x else y).is ρ u ∧ ∀ W, S W → m.run P W = .ok (.value u) W
  | .okps pre b x y => pre → ∃ u, (if b then x else y).is ρ u ∧ ∀ W, S W → m.run P W = .ok (.value u) W
  | .fork c x y => ∃ b : Bool, (b = true → c) ∧ ∃ u, (if b then x else y).is ρ u ∧ ∀ W, S W → m.run P W = .ok (.value u) W
  | .no => True

theorem PR.lift {ρ : List Pl} {P : Program} {S : World → Prop} {m : Sem Value} {r : PR} (h : r.gives ρ P S m) : r.givesN ρ P S (do pure (Next.value (← m))) := by
  have key : ∀ {u : Value}, (∀ W, S W → m.run P W = .ok u W) → ∀ W, S W → (do pure (Next.value (← m)) : Sem Next).run P W = .ok (.value u) W := fun hu W hW => by
    rw [Sem.run_bind, hu W hW]; rfl
  cases r with
  | ok v => obtain ⟨u, h1, h2⟩ := h; exact ⟨u, h1, key h2⟩
  | okp pre v => intro hp; obtain ⟨u, h1, h2⟩ := h hp; exact ⟨u, h1, key h2⟩
  | split b x y => obtain ⟨u, h1, h2⟩ := h; exact ⟨u, h1, key h2⟩
  | okps pre b x y => intro hp; obtain ⟨u, h1, h2⟩ := h hp; exact ⟨u, h1, key h2⟩
  | fork c x y => obtain ⟨b, hc, u, h1, h2⟩ := h; exact ⟨b, hc, u, h1, key h2⟩
  | no => trivial

/-- What else is known of what is read. -/
def MemDat (ρ : List Pl) (h : List Ent) (W : World) : Prop := ∀ (k : Nat) (e : Ent) (p : Pl), h[k]? = some e → ρ[k]? = some p → ∃ D, e.dat W D p
def MemOk (ρ : List Pl) (h : List Ent) (W : World) : Prop := ∀ (k : Nat) (e : Ent) (p : Pl), h[k]? = some e → ρ[k]? = some p → e.ok ρ p W

theorem ag_ok {ρ : List Pl} {cs : List CV} {vs : List Value} (h : IsL ρ cs vs) (b : Bool) (off size : Nat) :
    match ag b cs off size with
    | .ok v => ∃ u, v.is ρ u ∧ (if b then (off + size ≤ vs.length ∧ u = .agg ((vs.drop off).take size).toArray) else vs[off]? = some u)
    | .no => True
    | _ => False := by
  unfold ag
  cases b with
  | true =>
    by_cases hn : off + size ≤ cs.length
    · simp only [if_true, Nat.ble_eq, hn]
      exact ⟨_, ⟨_, (h.drop off).take size, rfl⟩, by rw [← h.len]; exact hn, rfl⟩
    · simp only [if_true, Nat.ble_eq, hn, if_false]
  | false =>
    simp only [Bool.false_eq_true, if_false]
    cases hc : cs[off]? with
    | none => trivial
    | some x =>
      obtain ⟨u, h1, h2⟩ := h.get hc
      exact ⟨u, h2, h1⟩

theorem isL_setMany {ρ : List Pl} : ∀ {xs cs : List CV} {us vs : List Value} (o : Nat), IsL ρ xs us → IsL ρ cs vs → IsL ρ (setMany cs o xs) ((us.zipIdx.foldl (fun cs (c, j) => cs.setIfInBounds (o + j) c) vs.toArray).toList)
  | [], cs, us, vs, o, hx, hc => by
    cases us with
    | nil => exact hc
    | cons => simp [IsL] at hx
  | x :: xs, cs, us, vs, o, hx, hc => by
    cases us with
    | nil => simp [IsL] at hx
    | cons u us =>
      simp only [IsL, List.map_cons, List.cons.injEq] at hx
      have ih := isL_setMany (xs := xs) (us := us) (o + 1) hx.2 (hc.set o hx.1)
      simp only [setMany]
      simp only [List.zipIdx_cons, List.foldl_cons, Nat.add_zero, List.setIfInBounds_toArray]
      rw [List.zipIdx_eq_map_add, List.foldl_map]
      have e : ∀ j, o + (0 + 1 + j) = o + 1 + j := fun j => by omega
      have e2 : (fun (x : Array Value) (y : Value × Nat) => x.setIfInBounds (o + (y.2 + (0 + 1))) y.1) = fun x y => x.setIfInBounds (o + 1 + y.2) y.1 := by
        funext x y; rw [show o + (y.2 + (0 + 1)) = o + 1 + y.2 by omega]
      first
        | (rw [e2]; exact ih)
        | (simpa [Nat.add_assoc, Nat.add_comm, Nat.add_left_comm] using ih)

theorem svCells_ok {ρ : List Pl} {v : SV} {u : Value} {xs : List CV} (h : v.is ρ u) (hc : svCells v = some xs) : ∃ us, IsL ρ xs us ∧ u.cells = us.toArray := by
  cases v with
  | c x =>
    simp only [svCells, Option.some.injEq] at hc
    subst hc
    have h1 := CV.den_oneCell h
    refine ⟨[u], IsL.cons h (IsL.nil ρ), ?_⟩
    cases u <;> first | rfl | cases h1
  | agg cs =>
    simp only [svCells, Option.some.injEq] at hc
    subst hc
    obtain ⟨vs, h1, rfl⟩ := h
    exact ⟨vs, h1, rfl⟩
  | _ => cases hc

def IsP (ρ : List Pl) : List (Nat × SV) → List (Nat × Value) → Prop
  | [], us => us = []
  | e :: es, us => ∃ u us', us = (e.1, u) :: us' ∧ e.2.is ρ u ∧ IsP ρ es us'

theorem fill_ok {ρ : List Pl} {pl : Nat → Option (Nat × Nat)} : ∀ {ps : List (Nat × SV)} {qs : List (Nat × Value)} {cs : List CV} {vs : List Value} {cs' : List CV}, IsP ρ ps qs → IsL ρ cs vs → fillC pl cs ps = some cs' →
    ∃ vs', IsL ρ cs' vs' ∧ Instr.fill pl vs.toArray qs = some vs'.toArray
  | [], qs, cs, vs, cs', hp, hc, h => by
    cases hp
    simp only [fillC, Option.some.injEq] at h
    subst h
    exact ⟨vs, hc, rfl⟩
  | (i, v) :: ps, qs, cs, vs, cs', hp, hc, h => by
    obtain ⟨u, qs', rfl, h1, h2⟩ := hp
    simp only [fillC] at h
    split at h
    · rename_i o n xs hpl hxs
      split at h
      · rename_i hb
        simp only [Bool.and_eq_true, Nat.beq_eq, Nat.ble_eq] at hb
        obtain ⟨us, hu1, hu2⟩ := svCells_ok h1 hxs
        have hset := isL_setMany o hu1 hc
        obtain ⟨vs', hv1, hv2⟩ := fill_ok h2 hset h
        refine ⟨vs', hv1, ?_⟩
        have e1 : us.length = n := by rw [← hu1.len]; exact hb.1
        have e2 : vs.length = cs.length := hc.len.symm
        have e3 : ¬ (us.toArray.size ≠ n || decide (o + us.toArray.size > vs.toArray.size)) = true := by
          simp [e1, e2]
          exact hb.2
        simp only [Instr.fill, hpl, hu2]
        rw [if_neg e3]
        have e4 : us.toArray.zipIdx.foldl (fun cs (c, j) => cs.setIfInBounds (o + j) c) vs.toArray = (us.zipIdx.foldl (fun cs (c, j) => cs.setIfInBounds (o + j) c) vs.toArray) := by
          simp
        rw [e4]
        simpa using hv2
      · cases h
    · cases h

theorem fieldsOf_get {P : Program} : ∀ {fs : List Field} {r : List (Nat × Nat × Bool)}, fieldsOf P fs = some r → ∀ {j : Nat} {o n : Nat} {b : Bool}, r[j]? = some (o, n, b) →
    ∃ f i d, fs[j]? = some f ∧ P.info? f.type = some i ∧ P.underlying f.type = some d ∧ f.offset = o ∧ i.size = n ∧ aggD d = b
  | [], r, h, j, o, n, b, hj => by simp [fieldsOf] at h; subst h; simp at hj
  | f :: fs, r, h, j, o, n, b, hj => by
    simp only [fieldsOf] at h
    split at h
    · rename_i i d r' hi hd hr
      simp only [Option.some.injEq] at h
      subst h
      cases j with
      | zero =>
        simp only [List.getElem?_cons_zero, Option.some.injEq, Prod.mk.injEq] at hj
        exact ⟨f, i, d, rfl, hi, hd, hj.1, hj.2.1, hj.2.2⟩
      | succ j => simpa using fieldsOf_get hr (by simpa using hj)
    · cases h

theorem fieldsOf_places {P : Program} : ∀ {fs : List Field} {r : List (Nat × Nat × Bool)}, fieldsOf P fs = some r → fs.mapM (fun f => (P.info? f.type).map fun i => (f.offset, i.size)) = some (r.map fun q => (q.1, q.2.1))
  | [], r, h => by simp [fieldsOf] at h; subst h; rfl
  | f :: fs, r, h => by
    simp only [fieldsOf] at h
    split at h
    · rename_i i d r' hi hd hr
      simp only [Option.some.injEq] at h
      subst h
      simp [List.mapM_cons, hi, fieldsOf_places hr]
    · cases h

theorem kd_struct {P : Program} {d : TypeDesc} {r : List (Nat × Nat × Bool)} (h : kdOf P d = .struct r) : ∃ fs, d = .struct fs ∧ fieldsOf P fs.toList = some r := by
  cases d <;> simp only [kdOf] at h <;> try (cases h; done)
  rename_i fs
  split at h
  · rename_i r' hr
    simp only [Kd.struct.injEq] at h
    subst h
    exact ⟨fs, rfl, hr⟩
  · cases h
theorem kd_str {P : Program} {d : TypeDesc} (h : kdOf P d = .str) : d = .string := by
  cases d <;> simp only [kdOf] at h <;> try (cases h; done)
  · rfl
  · split at h <;> cases h
theorem kd_bool {P : Program} {d : TypeDesc} (h : kdOf P d = .bool) : d = .bool := by
  cases d <;> simp only [kdOf] at h <;> try (cases h; done)
  · rfl
  · split at h <;> cases h
theorem kd_int {P : Program} {d : TypeDesc} {k : IntKind} (h : kdOf P d = .int k) : d = .int k := by
  cases d <;> simp only [kdOf] at h <;> try (cases h; done)
  · cases h; rfl
  · split at h <;> cases h

theorem fieldRow_ok {P : Program} {E : Tbl} (hE : E.Ok P) {t f o n : Nat} {b : Bool} (h : fieldRow E t f = some (o, n, b)) :
    ∃ fs fd i d, P.underlying t = some (.struct fs) ∧ fs[f]? = some fd ∧ P.info? fd.type = some i ∧ P.underlying fd.type = some d ∧ fd.offset = o ∧ i.size = n ∧ aggD d = b := by
  unfold fieldRow at h
  split at h
  · rename_i ti hti
    split at h
    · rename_i r hr
      obtain ⟨i0, d0, z0, T⟩ := TI.spec (hE.T t ti hti)
      obtain ⟨fs, hd, hf⟩ := kd_struct (T.kd.symm.trans hr)
      obtain ⟨fd, i, d, h1, h2, h3, h4, h5, h6⟩ := fieldsOf_get hf h
      exact ⟨fs, fd, i, d, by rw [T.und, hd], by simpa using h1, h2, h3, h4, h5, h6⟩
    · cases h
  · cases h

theorem run_isAgg {P : Program} {t : TypeId} {d : TypeDesc} (h : P.underlying t = some d) (W : World) : (isAgg t).run P W = .ok (aggD d) W := by
  unfold isAgg
  rw [Sem.run_bind, run_underlying h W]
  cases d <;> rfl
theorem run_sizeOf' {P : Program} {t : TypeId} {i : TypeInfo} (h : P.info? t = some i) (W : World) : (sizeOf t).run P W = .ok i.size W := by
  simp [sizeOf, typeInfo, h]

theorem run_part {P : Program} {t : TypeId} {i : TypeInfo} {d : TypeDesc} (hi : P.info? t = some i) (hd : P.underlying t = some d) {vs : List Value} {off : Nat} {u : Value}
    (h : if aggD d then (off + i.size ≤ vs.length ∧ u = .agg ((vs.drop off).take i.size).toArray) else vs[off]? = some u) (W : World) : (part t vs.toArray off).run P W = .ok u W := by
  unfold part
  rw [Sem.run_bind, run_isAgg hd W, Result.andThen_ok]
  cases ha : aggD d with
  | true =>
    rw [ha] at h
    simp only [if_true] at h ⊢
    rw [Sem.run_bind, run_sizeOf' hi W, Result.andThen_ok, h.2]
    simp only [Sem.run_pure, Result.ok.injEq, Value.agg.injEq, and_true]
    apply Array.ext'
    simp [List.extract_eq_take_drop]
  | false =>
    rw [ha] at h
    simp only [Bool.false_eq_true, if_false] at h ⊢
    have : vs.toArray[off]? = some u := by simpa using h
    rw [this]
    rfl

theorem run_loadVar {P : Program} {t : TypeId} {i : TypeInfo} {d : TypeDesc} (hi : P.info? t = some i) (hd : P.underlying t = some d) {vs : List Value} {off b : Nat} {ty : TypeId} {u : Value} {W : World}
    (hW : W.heap[b]? = some (.cells vs.toArray ty (0, 0)))
    (h : if aggD d then (off + i.size ≤ vs.length ∧ u = .agg ((vs.drop off).take i.size).toArray) else vs[off]? = some u) : (loadVar t ⟨b, off, none⟩).run P W = .ok u W := by
  cases ha : aggD d with
  | true =>
    rw [ha] at h
    simp only [if_true] at h
    rw [h.2]
    refine run_loadVar_mid W b off t _ d (fun j v hv => ?_) hd (by cases d <;> first | rfl | cases ha) (by simp [hi]; omega)
    rw [cell_of_row W b (off + j) _ ty (0, 0) hW]
    simp only [List.getElem?_take, List.getElem?_drop] at hv
    split at hv
    · simpa using hv
    · cases hv
  | false =>
    rw [ha] at h
    simp only [Bool.false_eq_true, if_false] at h
    unfold loadVar
    rw [Sem.run_bind, run_isAgg hd W, Result.andThen_ok, ha]
    simp only [Bool.false_eq_true, if_false, run_load]
    rw [cell_of_row W b off _ ty (0, 0) hW]
    have : vs.toArray[off]? = some u := by simpa using h
    rw [this]

theorem PR.ag_gives {ρ : List Pl} {P : Program} {S : World → Prop} {m : Sem Value} {cs : List CV} {vs : List Value} (h : IsL ρ cs vs) (b : Bool) (off size : Nat)
    (hm : ∀ u, (if b then (off + size ≤ vs.length ∧ u = .agg ((vs.drop off).take size).toArray) else vs[off]? = some u) → ∀ W, S W → m.run P W = .ok u W) : (ag b cs off size).gives ρ P S m := by
  have := ag_ok h b off size
  split at this
  · rename_i v hv
    obtain ⟨u, h1, h2⟩ := this
    rw [hv]
    exact ⟨u, h1, hm u h2⟩
  · rename_i hv
    rw [hv]; exact trivial
  · cases this

theorem bnd_ok {ρ : List Pl} {e : Operand → SV} {a : Operand → Value} (he : ∀ x, (e x).is ρ (a x)) {d : Int} {lo : Option Operand} {n : Int} (h : bnd d (lo.map e) = some n) :
    (lo = none ∧ n = d) ∨ (∃ x k, lo = some x ∧ a x = .int k n) := by
  cases lo with
  | none => simp [bnd] at h; exact Or.inl ⟨rfl, h.symm⟩
  | some x =>
    right
    simp only [Option.map_some] at h
    have hx := he x
    cases hv : e x with
    | c y =>
      rw [hv] at h hx
      cases y <;> simp [bnd] at h
      subst h
      have hx' : some (Value.int _ _) = some (a x) := hx
      exact ⟨x, _, rfl, (Option.some.inj hx').symm⟩
    | _ => rw [hv] at h; simp [bnd] at h
end Go.Proofs.YthomoliklfmnkaaDoor.Vx
end

section
/- Maps with numbers as values: what looking up and setting come to. -/
namespace Go.Proofs.YthomoliklfmnkaaDoor.Vx
open Go.RowKit
set_option linter.unusedVariables false
set_option linter.unusedSimpArgs false

theorem kd_map {P : Program} {d : TypeDesc} {k e : TypeId} (h : kdOf P d = .map k e) : d = .map k e := by
  cases d <;> simp only [kdOf] at h <;> try (cases h; done)
  · cases h; rfl
  · split at h <;> cases h
theorem kd_i64 {P : Program} {d : TypeDesc} (h : kdOf P d = .int .i64) : d = .int .i64 := by
  cases d <;> simp only [kdOf] at h <;> try (cases h; done)
  · cases h; rfl
  · split at h <;> cases h
open Classical in
/-- Where a key first stands. -/
noncomputable def firstN (v : Value) : List MapEntry → Option Nat
  | [] => none
  | e :: es => if e.key = v then some 0 else (firstN v es).map (· + 1)
def valAt (es : List MapEntry) (j : Nat) : Value := match es[j]? with
  | some e => e.val
  | none => undef
theorem firstN_at {v : Value} : ∀ {es : List MapEntry} {j : Nat}, firstN v es = some j → ∃ e, es[j]? = some e ∧ e.key = v
  | [], j, h => by cases h
  | e :: es, j, h => by
    unfold firstN at h
    split at h
    · rename_i hk
      cases h
      exact ⟨e, rfl, hk⟩
    · cases hf : firstN v es with
      | none => rw [hf] at h; cases h
      | some i =>
        rw [hf] at h
        cases h
        obtain ⟨e', h1, h2⟩ := firstN_at hf
        exact ⟨e', by simpa using h1, h2⟩
theorem shKs_eq : ∀ {gs : List Nat} {xs ys : List Value}, shKs gs xs → shKs gs ys → ∃ b, eqVs gs xs ys = some b ∧ (b = true ↔ xs = ys)
  | [], [], [], _, _ => ⟨true, rfl, by simp⟩
  | [], _ :: _, _, h, _ => by simp [shKs] at h
  | [], [], _ :: _, _, h => by simp [shKs] at h
  | g :: gs, [], _, h, _ => by simp [shKs] at h
  | g :: gs, _ :: _, [], _, h => by simp [shKs] at h
  | g :: gs, x :: xs, y :: ys, hx, hy => by
    unfold shKs at hx
    split at hx
    · rename_i h1 _; cases h1
    · rename_i gs' n vs e1 e2
      cases e1; cases e2
      unfold shKs at hy
      split at hy
      · rename_i h1 _; cases h1
      · rename_i gs' m ws e1 e2
        cases e1; cases e2
        obtain ⟨b, h1, h2⟩ := shKs_eq hx hy
        refine ⟨decide (n = m) && b, by simp [eqVs, eqV, h1], ?_⟩
        simp [h2]
      · rename_i e1 _; cases e1
      · rename_i e1 _; cases e1
      · exact hy.elim
    · rename_i gs' s vs e1 e2
      cases e1; cases e2
      unfold shKs at hy
      split at hy
      · rename_i h1 _; cases h1
      · rename_i e1 _; cases e1
      · rename_i gs' u ws e1 e2
        cases e1; cases e2
        obtain ⟨b, h1, h2⟩ := shKs_eq hx hy
        refine ⟨decide (s.toList = u.toList) && b, by simp [eqVs, eqV, h1], ?_⟩
        have : s.toList = u.toList ↔ s = u := ⟨fun h => by
          obtain ⟨⟨l⟩⟩ := s
          obtain ⟨⟨m⟩⟩ := u
          have h' : l = m := (toList_mk l).symm.trans (h.trans (toList_mk m))
          rw [h'], fun h => by rw [h]⟩
        simp [h2, this]
      · rename_i e1 _; cases e1
      · exact hy.elim
    · rename_i gs' b0 vs e1 e2
      cases e1; cases e2
      unfold shKs at hy
      split at hy
      · rename_i h1 _; cases h1
      · rename_i e1 _; cases e1
      · rename_i e1 _; cases e1
      · rename_i gs' c0 ws e1 e2
        cases e1; cases e2
        obtain ⟨b, h1, h2⟩ := shKs_eq hx hy
        refine ⟨(b0 == c0) && b, by simp [eqVs, eqV, h1], ?_⟩
        simp [h2]
      · exact hy.elim
    · exact hx.elim
/-- What is told of a map's keys. -/
structure MapOk (P : Program) (kt : TypeId) (gs : List Nat) : Prop where
  check : ∀ v, keySh gs v → ∀ em W, (Instr.checkKey em 10000 kt v).run P W = .ok () W
  find : ∀ v es, keySh gs v → (∀ e ∈ es, keySh gs e.key) → ∀ W, (Instr.findKey kt v es).run P W = .ok ((firstN v es).map fun j => (j, valAt es j)) W
theorem valAt_succ {e : MapEntry} {es : List MapEntry} {j : Nat} : valAt (e :: es) (j + 1) = valAt es j := by simp [valAt]
theorem findNow_first {n : Int} : ∀ {es : List MapEntry} {i : Nat}, (∀ e ∈ es, keySh [] e.key) → Instr.findNow (.int .i64) (.int .i64 n) es i = some ((firstN (.int .i64 n) es).map fun j => (i + j, valAt es j))
  | [], i, _ => rfl
  | e :: es, i, h => by
    obtain ⟨m, hm⟩ := h e (by simp)
    have ih := findNow_first (n := n) (es := es) (i := i + 1) fun x hx => h x (by simp [hx])
    unfold Instr.findNow firstN
    rw [hm]
    by_cases hk : n = m
    · subst hk
      simp [Instr.sameNow, valAt]
    · have hk' : ¬ m = n := fun x => hk x.symm
      simp only [Instr.sameNow, if_true, show (n == m) = false from by simpa using hk, ih]
      rw [if_neg (by simpa using hk')]
      cases firstN (.int .i64 n) es with
      | none => rfl
      | some j => simp [valAt_succ, Nat.add_assoc, Nat.add_comm 1 j]
theorem MapOk.int {P : Program} {kt : TypeId} (hd : P.underlying kt = some (.int .i64)) : MapOk P kt [] where
  check v hv em W := by
    obtain ⟨n, rfl⟩ := hv
    exact MapKept.run_checkKey hd (by simp [MapKept.IsKey]) em 9999
  find v es hv hes W := by
    obtain ⟨n, rfl⟩ := hv
    have := findNow_first (n := n) (es := es) (i := 0) hes
    rw [MapKept.run_findKey hd this]
    simp
theorem MapOk.flat {P : Program} {kt : TypeId} {g : Nat} {gs : List Nat} (hd : (match P.underlying kt with | some (.array _ _) | some (.struct _) => true | _ => false) = true) (F : FlatOk P kt (g :: gs)) : MapOk P kt (g :: gs) where
  check v hv em W := by
    obtain ⟨vs, rfl, h⟩ := hv
    exact F.check vs h em W
  find v es hv hes W := by
    rw [run_findKey_eq W hd]
    obtain ⟨vs, rfl, h⟩ := hv
    have key : ∀ (es : List MapEntry) (i : Nat), (∀ e ∈ es, keySh (g :: gs) e.key) → (Instr.findAsking kt (.agg vs.toArray) es i).run P W = .ok ((firstN (.agg vs.toArray) es).map fun j => (i + j, valAt es j)) W := by
      intro es
      induction es with
      | nil => intro i _; simp [Instr.findAsking, firstN]
      | cons e es ih =>
        intro i hes
        obtain ⟨ws, hw, h2⟩ := hes e (by simp)
        obtain ⟨b, hb, hi⟩ := shKs_eq h h2
        have hr := F.equal vs ws b hb W
        have hih := ih (i + 1) fun x hx => hes x (by simp [hx])
        unfold firstN
        rw [hw]
        cases b with
        | true =>
          have := hi.1 rfl
          subst this
          simp [Instr.findAsking, hw, hr, valAt]
        | false =>
          have hne : ¬ ws = vs := fun x => by have := hi.2 x.symm; cases this
          rw [if_neg (by simpa using hne)]
          simp only [Instr.findAsking, hw, Sem.run_bind, hr, Result.andThen_ok]
          cases hfn : firstN (.agg vs.toArray) es with
          | none => rw [hfn] at hih; simp [hih]
          | some j => rw [hfn] at hih; simp [hih, valAt_succ, Nat.add_assoc, Nat.add_comm 1 j]
    have := key es 0 hes
    simpa using this
theorem sameBits_sh {gs : List Nat} {v : Value} (h : keySh gs v) : Instr.sameBits 10000 v v = true := by
  cases gs with
  | nil => obtain ⟨n, rfl⟩ := h; simp [Instr.sameBits]
  | cons g gs =>
    obtain ⟨vs, rfl, h⟩ := h
    rw [show (10000 : Nat) = 9999 + 1 from rfl]
    simp only [Instr.sameBits, beq_self_eq_true, Bool.true_and]
    have key : ∀ (gs : List Nat) (vs : List Value), shKs gs vs → (vs.zip vs).all (fun (x, y) => Instr.sameBits 9999 x y) = true := by
      intro gs
      induction gs with
      | nil => intro vs h; cases vs with
        | nil => rfl
        | cons v vs => simp [shKs] at h
      | cons g gs ih =>
        intro vs h
        unfold shKs at h
        split at h
        · rename_i h1; cases h1
        · rename_i e1; cases e1
          simp [Instr.sameBits, ih _ h, MapKept.bytes_beq]
        · rename_i e1; cases e1
          simp [Instr.sameBits, ih _ h, MapKept.bytes_beq]
        · rename_i e1; cases e1
          simp [Instr.sameBits, ih _ h, MapKept.bytes_beq]
        · exact h.elim
    exact key _ _ h
def kvE (e : MapEntry) : Value × Value := (e.key, e.val)
def kvQ (q : Value × Int) : Value × Value := (q.1, Value.int .i64 q.2)
theorem get_first {v : Value} : ∀ {es : List MapEntry} {l : List (Value × Int)}, es.map kvE = l.map kvQ → (match firstN v es with | some j => valAt es j | none => .int .i64 0) = .int .i64 (mpGet v l)
  | [], [], _ => rfl
  | [], _ :: _, h => by simp at h
  | _ :: _, [], h => by simp at h
  | e :: es, q :: l, h => by
    simp only [List.map_cons, List.cons.injEq, kvE, kvQ, Prod.mk.injEq] at h
    have ih := get_first (v := v) h.2
    unfold firstN mpGet
    rw [h.1.1]
    by_cases hk : q.1 = v
    · rw [if_pos hk, if_pos hk]
      exact h.1.2
    · rw [if_neg hk, if_neg hk, ← ih]
      cases firstN v es with
      | none => rfl
      | some j => exact valAt_succ
theorem set_first {v : Value} {n : Int} {ck : Nat} : ∀ {es : List MapEntry} {l : List (Value × Int)}, es.map kvE = l.map kvQ →
    ((match firstN v es with | some j => es.modify j fun e => { e with key := v, val := .int .i64 n } | none => es ++ [{ key := v, val := .int .i64 n, born := ck }]) : List MapEntry).map kvE = (mpSet v n l).map kvQ
  | [], [], _ => rfl
  | [], _ :: _, h => by simp at h
  | _ :: _, [], h => by simp at h
  | e :: es, q :: l, h => by
    simp only [List.map_cons, List.cons.injEq, kvE, kvQ, Prod.mk.injEq] at h
    have ih := set_first (v := v) (n := n) (ck := ck) h.2
    unfold firstN mpSet
    rw [h.1.1]
    by_cases hk : q.1 = v
    · rw [if_pos hk, if_pos hk]
      simp [List.modify, kvE, kvQ]
      exact h.2
    · rw [if_neg hk, if_neg hk]
      rw [List.map_cons, ← ih]
      cases firstN v es with
      | none => simp [kvE, kvQ, h.1.1, h.1.2]
      | some j => simp [List.modify, kvE, kvQ, h.1.1, h.1.2]
theorem mpSet_sh {gs : List Nat} {v : Value} {n : Int} (hv : keySh gs v) : ∀ {l : List (Value × Int)}, (∀ q ∈ l, keySh gs q.1) → ∀ q ∈ mpSet v n l, keySh gs q.1
  | [], _, q, hq => by
    simp [mpSet] at hq
    subst hq
    exact hv
  | a :: l, h, q, hq => by
    unfold mpSet at hq
    split at hq
    · rcases List.mem_cons.1 hq with rfl | hq
      · exact hv
      · exact h q (by simp [hq])
    · rcases List.mem_cons.1 hq with rfl | hq
      · exact h _ (by simp)
      · exact mpSet_sh hv (fun x hx => h x (by simp [hx])) q hq
theorem cellsK_ok {ρ : List Pl} : ∀ {gs : List Nat} {cs : List CV} {vs us : List Value}, cellsK gs cs = some vs → IsL ρ cs us → us = vs ∧ shKs gs vs
  | [], [], vs, us, h, hu => by
    cases h
    cases us with
    | nil => exact ⟨rfl, trivial⟩
    | cons u us => simp [IsL] at hu
  | [], c :: cs, vs, us, h, hu => by simp [cellsK] at h
  | g :: gs, cs, vs, us, h, hu => by
    unfold cellsK at h
    split at h
    all_goals first
      | (cases h; done)
      | (rename_i h1 _; cases h1; done)
      | (rename_i h1; cases h1; done)
      | (rename_i e1
         cases e1
         split at h
         · rename_i ws hws
           cases h
           cases us with
           | nil => simp [IsL] at hu
           | cons u us =>
             simp only [IsL, List.map_cons, List.cons.injEq] at hu
             obtain ⟨h1, h2⟩ := cellsK_ok hws hu.2
             have h3 := hu.1
             simp only [CV.den, Option.some.injEq] at h3
             subst h1
             subst h3
             exact ⟨rfl, h2⟩
         · cases h)
theorem keyC_ok {ρ : List Pl} {gs : List Nat} {x : SV} {v u : Value} (h : keyC gs x = some v) (hx : x.is ρ u) : u = v ∧ keySh gs v := by
  unfold keyC at h
  split at h
  · cases h
    exact ⟨(Option.some.inj hx).symm, _, rfl⟩
  · split at h
    · rename_i ws hws
      cases h
      obtain ⟨us, h1, h2⟩ := hx
      obtain ⟨h3, h4⟩ := cellsK_ok hws h1
      subst h3
      exact ⟨h2, _, rfl, h4⟩
    · cases h
  · cases h
theorem mapTy_ok {P : Program} {E : Tbl} (hE : E.Ok P) {t : TypeId} {gs : List Nat} (h : mapTy E t = some gs) : ∃ kt et, P.underlying t = some (.map kt et) ∧ (∀ W, (zeroValue et).run P W = .ok (.int .i64 0) W) ∧ MapOk P kt gs := by
  unfold mapTy at h
  split at h
  · rename_i ti hti
    split at h
    · rename_i kt et hkd
      obtain ⟨i0, d0, z0, T0⟩ := TI.spec (hE.T _ ti hti)
      have hd0 := kd_map (T0.kd.symm.trans hkd)
      split at h
      · rename_i ei ki hei hki
        obtain ⟨i1, d1, z1, T1⟩ := TI.spec (hE.T _ ei hei)
        obtain ⟨i2, d2, z2, T2⟩ := TI.spec (hE.T _ ki hki)
        have hz : ∀ (hk : ei.kd = .int .i64) (hz : ei.zero = [.int .i64 0]) W, (zeroValue et).run P W = .ok (.int .i64 0) W := fun hk hz W => by
          have hz1 : z1 = .int .i64 0 := by
            have hd1 := kd_i64 (T1.kd.symm.trans hk)
            have h1 := T1.zone (by rw [hd1]; rfl)
            have h2 := T1.zs
            rw [hz] at h2
            cases z1 with
            | agg cs => cases h1
            | tuple cs => cases h1
            | int k n => simp [Value.cells, CV.ofV] at h2; obtain ⟨rfl, rfl⟩ := h2; rfl
            | bool b => cases b <;> simp [Value.cells, CV.ofV] at h2
            | _ => simp [Value.cells, CV.ofV] at h2
          simp [zeroValue, typeInfo, T1.info, T1.zero, hz1]
        split at h
        · rename_i he1 he2 hk1
          cases h
          exact ⟨kt, et, by rw [T0.und, hd0], hz he1 he2, MapOk.int (by rw [T2.und, kd_i64 (T2.kd.symm.trans hk1)])⟩
        · rename_i fs he1 he2 hk1
          split at h
          · rename_i g gs' hF
            cases h
            refine ⟨kt, et, by rw [T0.und, hd0], hz he1 he2, MapOk.flat ?_ (hE.F _ _ hF)⟩
            rw [T2.und]
            have hk2 := T2.kd
            rw [hk1] at hk2
            cases d2 <;> simp [kdOf] at hk2
            rfl
          · cases h
        · cases h
      · cases h
    · cases h
  · cases h
theorem mp_get {P : Program} {t kt et : TypeId} {gs : List Nat} (ht : P.underlying t = some (.map kt et)) (hz : ∀ W, (zeroValue et).run P W = .ok (.int .i64 0) W) (M : MapOk P kt gs) {W : World} {b : Nat} {l : List (Value × Int)} (hm : MapAt W b gs l) {v : Value} (hv : keySh gs v) :
    (Instr.lookup t (.map (some b)) v false).run P W = .ok (.int .i64 (mpGet v l)) W := by
  obtain ⟨es, ck, h1, h2, h3⟩ := hm
  have hsh : ∀ e ∈ es.toList, keySh gs e.key := fun e he => by
    have : (e.key, e.val) ∈ l.map (fun q => (q.1, Value.int .i64 q.2)) := by rw [← h2]; exact List.mem_map.2 ⟨e, he, rfl⟩
    obtain ⟨q, hq, hqe⟩ := List.mem_map.1 this
    simp only [Prod.mk.injEq] at hqe
    rw [← hqe.1]
    exact h3 q hq
  have hf := M.find v es.toList hv hsh W
  have hg := get_first (v := v) (es := es.toList) (l := l) h2
  simp only [Instr.lookup, Sem.run_bind, run_underlying ht, Result.andThen_ok, MapKept.run_getObj_map h1, Sem.run_pure, M.check v hv, hf]
  cases hfn : firstN v es.toList with
  | none =>
    rw [hfn] at hg
    simp [hz, hg]
  | some j =>
    rw [hfn] at hg
    simp [hg]
theorem mp_set {P : Program} {t kt et : TypeId} {gs : List Nat} (ht : P.underlying t = some (.map kt et)) (M : MapOk P kt gs) {W : World} {b : Nat} {l : List (Value × Int)} (hm : MapAt W b gs l) {v : Value} (hv : keySh gs v) (n : Int) :
    ∃ es' ck', (Instr.mapUpdate t (.map (some b)) v (.int .i64 n)).run P W = .ok () { W with heap := W.heap.setIfInBounds b (.map es' ck') } ∧ MapAt { W with heap := W.heap.setIfInBounds b (.map es' ck') } b gs (mpSet v n l) ∧ b < W.heap.size := by
  obtain ⟨es, ck, h1, h2, h3⟩ := hm
  have hsh : ∀ e ∈ es.toList, keySh gs e.key := fun e he => by
    have : (e.key, e.val) ∈ l.map (fun q => (q.1, Value.int .i64 q.2)) := by rw [← h2]; exact List.mem_map.2 ⟨e, he, rfl⟩
    obtain ⟨q, hq, hqe⟩ := List.mem_map.1 this
    simp only [Prod.mk.injEq] at hqe
    rw [← hqe.1]
    exact h3 q hq
  have hf := M.find v es.toList hv hsh W
  have hg := set_first (v := v) (n := n) (ck := ck) (es := es.toList) (l := l) h2
  have hb : b < W.heap.size := (Array.getElem?_eq_some_iff.1 h1).1
  cases hfn : firstN v es.toList with
  | none =>
    rw [hfn] at hg hf
    refine ⟨es.push { key := v, val := .int .i64 n, born := ck }, ck + 1, ?_, ⟨es.push { key := v, val := .int .i64 n, born := ck }, ck + 1, by simp [hb], ?_, mpSet_sh hv h3⟩, hb⟩
    · simp only [Instr.mapUpdate, Sem.run_bind, run_underlying ht, Result.andThen_ok, MapKept.run_getObj_map h1, M.check v hv, hf, Option.map_none, MapKept.run_setObj_map _ h1]
    · rw [Array.toList_push]
      exact hg
  | some j =>
    obtain ⟨e0, he1, he2⟩ := firstN_at hfn
    rw [hfn] at hg hf
    have he1' : es[j]? = some e0 := by simpa using he1
    refine ⟨es.modify j fun e => { e with key := v, val := .int .i64 n }, ck, ?_, ⟨es.modify j fun e => { e with key := v, val := .int .i64 n }, ck, by simp [hb], ?_, mpSet_sh hv h3⟩, hb⟩
    · simp only [Instr.mapUpdate, Sem.run_bind, run_underlying ht, Result.andThen_ok, MapKept.run_getObj_map h1, M.check v hv, hf, Option.map_some, he1', Option.getD_some, he2, Instr.keyThatStays, sameBits_sh hv, if_true, Sem.run_pure, MapKept.run_setObj_map _ h1]
    · rw [Array.toList_modify]
      exact hg
end Go.Proofs.YthomoliklfmnkaaDoor.Vx
end
