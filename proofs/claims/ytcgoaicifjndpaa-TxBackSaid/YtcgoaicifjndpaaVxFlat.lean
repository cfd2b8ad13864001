/- '==' of structs and arrays whose cells are numbers, strings and bools, of any shape. -/
import Derived.Test.YtcgoaicifjndpaaVxPevOk2
import Derived.ChangeKeysEq
namespace Go.Proofs.Ytcgoaicifjndpaa.Vx
open Go.RowKit
set_option linter.unusedVariables false
set_option linter.unusedSimpArgs false

def flatFs (P : Program) (F : TypeId → Option (List Nat)) : List Field → Nat → Option (List Nat)
  | [], _ => some []
  | f :: r, o =>
    if f.name ≠ "_" ∧ f.offset = o then
      match F f.type, P.info? f.type with
      | some g, some i => if i.size = g.length then (flatFs P F r (o + g.length)).map (g ++ ·) else none
      | _, _ => none
    else none

def flat (P : Program) : Nat → TypeId → Option (List Nat)
  | 0, _ => none
  | d + 1, t => match P.underlying t with
    | some (.int _) => some [0]
    | some .string => some [1]
    | some .bool => some [2]
    | some (.struct fs) => if P.stoodInHeld t then none else flatFs P (flat P d) fs.toList 0
    | some (.array n e) => match flat P d e, P.info? e with
      | some g, some i => if i.size = g.length then some ((List.replicate n g).flatten) else none
      | _, _ => none
    | _ => none

def valOf (b : Bool) (xs : List Value) : Value := if b then .agg xs.toArray else xs.headD undef

theorem eqVs_len : ∀ {gs : List Nat} {xs ys : List Value} {b : Bool}, eqVs gs xs ys = some b → xs.length = gs.length ∧ ys.length = gs.length
  | [], [], [], b, _ => ⟨rfl, rfl⟩
  | g :: gs, x :: xs, y :: ys, b, h => by
    simp only [eqVs] at h
    split at h
    · rename_i a c ha hc
      have := eqVs_len hc
      simp [this.1, this.2]
    · cases h
  | [], _ :: _, _, b, h => by simp [eqVs] at h
  | [], [], _ :: _, b, h => by simp [eqVs] at h
  | _ :: _, [], _, b, h => by simp [eqVs] at h
  | _ :: _, _ :: _, [], b, h => by simp [eqVs] at h

theorem eqVs_app : ∀ {g1 g2 : List Nat} {xs ys : List Value} {b : Bool}, eqVs (g1 ++ g2) xs ys = some b →
    ∃ b1 b2, eqVs g1 (xs.take g1.length) (ys.take g1.length) = some b1 ∧ eqVs g2 (xs.drop g1.length) (ys.drop g1.length) = some b2 ∧ b = (b1 && b2)
  | [], g2, xs, ys, b, h => ⟨true, b, rfl, h, by simp⟩
  | g :: g1, g2, [], ys, b, h => by simp [eqVs] at h
  | g :: g1, g2, x :: xs, [], b, h => by simp [eqVs] at h
  | g :: g1, g2, x :: xs, y :: ys, b, h => by
    simp only [List.cons_append, eqVs] at h
    split at h
    · rename_i a c ha hc
      obtain ⟨b1, b2, h1, h2, rfl⟩ := eqVs_app hc
      simp only [Option.some.injEq] at h
      refine ⟨a && b1, b2, ?_, h2, by rw [← h, Bool.and_assoc]⟩
      simp [eqVs, ha, h1]
    · cases h

theorem part_val {P : Program} {t : TypeId} {i : TypeInfo} {d : TypeDesc} (hi : P.info? t = some i) (hd : P.underlying t = some d) {zs : List Value} {off : Nat} (hn : off + i.size ≤ zs.length) (h1 : aggD d = false → i.size = 1) (W : World) :
    (part t zs.toArray off).run P W = .ok (valOf (aggD d) ((zs.drop off).take i.size)) W := by
  refine run_part hi hd ?_ W
  cases ha : aggD d with
  | true => exact ⟨hn, rfl⟩
  | false =>
    have := h1 ha
    simp only [Bool.false_eq_true, if_false, valOf]
    rw [this]
    rw [List.getElem?_eq_getElem (by omega)]
    congr 1
    rw [List.headD_eq_head?_getD, List.head?_take]
    simp [List.head?_drop, List.getElem?_eq_getElem (show off < zs.length by omega)]

theorem flat_agg {P : Program} {d : Nat} {t : TypeId} {gs : List Nat} (h : flat P d t = some gs) : ∃ D, P.underlying t = some D ∧ (aggD D = false → gs.length = 1) := by
  cases d with
  | zero => cases h
  | succ d =>
    simp only [flat] at h
    cases hu : P.underlying t with
    | none => rw [hu] at h; cases h
    | some D =>
      rw [hu] at h
      refine ⟨D, rfl, fun ha => ?_⟩
      cases D <;> simp [aggD] at ha <;> simp at h
      all_goals (subst h; rfl)

theorem flat_eq {P : Program} : ∀ (d : Nat) (t : TypeId) (gs : List Nat), flat P d t = some gs → ∀ (D : TypeDesc), P.underlying t = some D → ∀ (k : Nat) (xs ys : List Value) (b : Bool), eqVs gs xs ys = some b → ∀ W,
    (Op.equalIn (d + k) t (valOf (aggD D) xs) (valOf (aggD D) ys)).run P W = .ok b W
  | 0, t, gs, h, _, _, _, _, _, _, _, _ => by cases h
  | d + 1, t, gs, h, D, hD, k, xs, ys, b, he, W => by
    have ed : d + 1 + k = (d + k) + 1 := by omega
    rw [ed]
    simp only [flat, hD] at h
    have scalar : ∀ g, gs = [g] → ∃ x y, xs = [x] ∧ ys = [y] ∧ eqV g x y = some b := fun g hg => by
      subst hg
      cases xs with
      | nil => simp [eqVs] at he
      | cons x xs =>
        cases ys with
        | nil => simp [eqVs] at he
        | cons y ys =>
          simp only [eqVs] at he
          split at he
          · rename_i a c ha hc
            cases xs <;> cases ys <;> simp [eqVs] at hc
            subst hc
            simp at he
            subst he
            exact ⟨x, y, rfl, rfl, ha⟩
          · cases he
    cases D with
    | int q =>
      obtain ⟨x, y, rfl, rfl, hv⟩ := scalar 0 (by simpa using h.symm)
      cases x <;> cases y <;> simp [eqV] at hv
      obtain ⟨rfl, hv⟩ := hv
      simp only [valOf, aggD, Bool.false_eq_true, if_false, List.headD_cons]
      rw [run_equalIn_int (P := P) W (d + k) t _ _ _ _ hD]
      subst hv
      rfl
    | string =>
      obtain ⟨x, y, rfl, rfl, hv⟩ := scalar 1 (by simpa using h.symm)
      cases x <;> cases y <;> simp only [eqV] at hv <;> try (cases hv; done)
      simp only [valOf, aggD, Bool.false_eq_true, if_false, List.headD_cons]
      rw [run_equalIn_string (P := P) W (d + k) t _ _ hD]
      simp only [Option.some.injEq] at hv
      subst hv
      congr 1
      rw [Bool.eq_iff_iff, beq_iff_eq, decide_eq_true_iff]
    | bool =>
      obtain ⟨x, y, rfl, rfl, hv⟩ := scalar 2 (by simpa using h.symm)
      cases x <;> cases y <;> simp only [eqV] at hv <;> try (cases hv; done)
      simp only [valOf, aggD, Bool.false_eq_true, if_false, List.headD_cons]
      rw [run_equalIn_bool' (P := P) W (d + k) t _ _ hD]
      simp only [Option.some.injEq] at hv
      subst hv
      rfl
    | struct fs =>
      simp only at h
      split at h
      · cases h
      rename_i hp
      have hp' : P.stoodInHeld t = false := by simpa using hp
      have hf : P.fieldsOf t = fs := by simp [Program.fieldsOf, hD]
      simp only [valOf, aggD, if_true]
      rw [run_equalIn_struct (P := P) W (d + k) t _ _ (by rw [hf]; exact hD) hp', hf]
      have key : ∀ (l : List Field) (o : Nat) (g : List Nat) (b : Bool), flatFs P (flat P d) l o = some g → o + g.length ≤ xs.length → o + g.length ≤ ys.length → eqVs g ((xs.drop o).take g.length) ((ys.drop o).take g.length) = some b →
          (Op.eqFields (d + k) xs.toArray ys.toArray l).run P W = .ok b W := by
        intro l
        induction l with
        | nil =>
          intro o g b hl _ _ hb
          simp only [flatFs, Option.some.injEq] at hl
          subst hl
          simp [eqVs] at hb
          subst hb
          simp [Op.eqFields]
        | cons f r ih =>
          intro o g b hl hx hy hb
          simp only [flatFs] at hl
          split at hl
          · rename_i hc
            split at hl
            · rename_i g1 i hg1 hi
              split at hl
              · rename_i hsz
                cases hr : flatFs P (flat P d) r (o + g1.length) with
                | none => rw [hr] at hl; cases hl
                | some g2 =>
                  rw [hr] at hl
                  simp only [Option.map_some, Option.some.injEq] at hl
                  subst hl
                  obtain ⟨b1, b2, e1, e2, rfl⟩ := eqVs_app hb
                  simp only [List.length_append] at hx hy e1 e2
                  rw [List.take_take, List.take_take, Nat.min_eq_left (by omega)] at e1
                  rw [List.drop_take, List.drop_take, List.drop_drop, List.drop_drop] at e2
                  obtain ⟨D2, hD2, hone⟩ := flat_agg hg1
                  have p1 := part_val (P := P) hi hD2 (zs := xs) (off := o) (by omega) (fun ha => by rw [hsz]; exact hone ha) W
                  have p2 := part_val (P := P) hi hD2 (zs := ys) (off := o) (by omega) (fun ha => by rw [hsz]; exact hone ha) W
                  rw [hsz] at p1 p2
                  have q := flat_eq d f.type g1 hg1 D2 hD2 k _ _ b1 e1 W
                  have rest := ih (o + g1.length) g2 b2 hr (by omega) (by omega) (by
                    rw [show g1.length + g2.length - g1.length = g2.length by omega] at e2
                    exact e2)
                  simp only [Op.eqFields, hc.1, ne_eq, not_false_eq_true, if_true, Sem.run_bind, hc.2, p1, p2, q, Result.andThen_ok]
                  cases b1
                  · simp
                  · simpa using rest
              · cases hl
            · cases hl
          · cases hl
      have hlen := eqVs_len he
      refine key fs.toList 0 gs b h (by omega) (by omega) ?_
      rw [List.drop_zero, List.drop_zero, List.take_of_length_le (by omega), List.take_of_length_le (by omega)]
      exact he
    | array n e =>
      simp only at h
      split at h
      · rename_i g1 i hg1 hi
        split at h
        · rename_i hsz
          simp only [Option.some.injEq] at h
          simp only [valOf, aggD, if_true]
          rw [run_equalIn_array (P := P) W (d + k) _ _ hD hi]
          have hco : P.cellsOf e = g1.length := by simp [Program.cellsOf, hi, hsz]
          obtain ⟨D2, hD2, hone⟩ := flat_agg hg1
          have hle : ∀ {j : Nat} (L : Nat), min g1.length (L - j * g1.length) = g1.length → j * g1.length + i.size ≤ L := fun {j} L hL => by
            rw [hsz]
            rcases Nat.eq_zero_or_pos g1.length with h0 | h0
            · rw [h0]; simp
            · omega
          have key : ∀ (m j : Nat) (b : Bool), j + m = n → eqVs (List.replicate m g1).flatten (xs.drop (j * g1.length)) (ys.drop (j * g1.length)) = some b →
              (Op.eqItems (d + k) e (P.cellsOf e) xs.toArray ys.toArray (List.range' j m)).run P W = .ok b W := by
            intro m
            induction m with
            | zero =>
              intro j b _ hb
              cases hx : xs.drop (j * g1.length) <;> cases hy : ys.drop (j * g1.length) <;> rw [hx, hy] at hb <;> simp [eqVs] at hb
              subst hb
              simp [Op.eqItems]
            | succ m ih =>
              intro j b hj hb
              rw [List.replicate_succ, List.flatten_cons] at hb
              obtain ⟨b1, b2, e1, e2, rfl⟩ := eqVs_app hb
              rw [List.drop_drop, List.drop_drop] at e2
              have l1 := eqVs_len e1
              simp only [List.length_take, List.length_drop] at l1
              have p1 := part_val (P := P) hi hD2 (zs := xs) (off := j * g1.length) (hle _ l1.1) (fun ha => by rw [hsz]; exact hone ha) W
              have p2 := part_val (P := P) hi hD2 (zs := ys) (off := j * g1.length) (hle _ l1.2) (fun ha => by rw [hsz]; exact hone ha) W
              rw [hsz] at p1 p2
              have q := flat_eq d e g1 hg1 D2 hD2 k _ _ b1 e1 W
              have rest := ih (j + 1) b2 (by omega) (by rw [Nat.succ_mul]; exact e2)
              rw [List.range'_succ]
              simp only [Op.eqItems, Sem.run_bind, hco, p1, p2, q, Result.andThen_ok]
              rw [hco] at rest
              cases b1
              · simp
              · simpa using rest
          rw [List.range_eq_range']
          exact key n 0 b (by omega) (by subst h; simpa using he)
        · cases h
      · cases h
    | _ => cases h

theorem shKs_len : ∀ {gs : List Nat} {vs : List Value}, shKs gs vs → vs.length = gs.length
  | [], [], _ => rfl
  | [], _ :: _, h => by simp [shKs] at h
  | g :: gs, vs, h => by
    unfold shKs at h
    split at h
    all_goals first
      | exact h.elim
      | (rename_i h1; cases h1; done)
      | (rename_i h1 _; cases h1; done)
      | (rename_i h1; cases h1; simp [shKs_len h]; done)
      | (rename_i h1 _; cases h1; simp [shKs_len h]; done)
theorem shKs_app : ∀ {g1 g2 : List Nat} {vs : List Value}, shKs (g1 ++ g2) vs → shKs g1 (vs.take g1.length) ∧ shKs g2 (vs.drop g1.length)
  | [], g2, vs, h => ⟨trivial, h⟩
  | g :: g1, g2, vs, h => by
    rw [List.cons_append] at h
    unfold shKs at h
    split at h
    · rename_i h1; cases h1
    · rename_i e1; cases e1
      obtain ⟨h1, h2⟩ := shKs_app h
      exact ⟨h1, h2⟩
    · rename_i e1; cases e1
      obtain ⟨h1, h2⟩ := shKs_app h
      exact ⟨h1, h2⟩
    · rename_i e1; cases e1
      obtain ⟨h1, h2⟩ := shKs_app h
      exact ⟨h1, h2⟩
    · exact h.elim
theorem flat_check {P : Program} : ∀ (d : Nat) (t : TypeId) (gs : List Nat), flat P d t = some gs → ∀ (D : TypeDesc), P.underlying t = some D → ∀ (k : Nat) (em : Bool) (xs : List Value), shKs gs xs → ∀ W,
    (Instr.checkKey em (d + k) t (valOf (aggD D) xs)).run P W = .ok () W
  | 0, t, gs, h, _, _, _, _, _, _, _ => by cases h
  | d + 1, t, gs, h, D, hD, k, em, xs, hx, W => by
    have ed : d + 1 + k = (d + k) + 1 := by omega
    rw [ed]
    simp only [flat, hD] at h
    cases D with
    | int q =>
      simp only [Option.some.injEq] at h
      subst h
      cases xs with
      | nil => simp [shKs] at hx
      | cons x xs => simp [Instr.checkKey, run_underlying hD]
    | string =>
      simp only [Option.some.injEq] at h
      subst h
      cases xs with
      | nil => simp [shKs] at hx
      | cons x xs => simp [Instr.checkKey, run_underlying hD]
    | bool =>
      simp only [Option.some.injEq] at h
      subst h
      cases xs with
      | nil => simp [shKs] at hx
      | cons x xs => simp [Instr.checkKey, run_underlying hD]
    | struct fs =>
      simp only at h
      split at h
      · cases h
      have key : ∀ (l : List Field) (o : Nat) (g : List Nat), flatFs P (flat P d) l o = some g → o + g.length ≤ xs.length → shKs g ((xs.drop o).take g.length) →
          (forIn l PUnit.unit (fun (f : Field) (_ : PUnit) => (do
            if f.name ≠ "_" then Instr.checkKey em (d + k) f.type (← part f.type xs.toArray f.offset)
            pure (ForInStep.yield PUnit.unit) : Sem (ForInStep PUnit)))).run P W = .ok PUnit.unit W := by
        intro l
        induction l with
        | nil => intro o g _ _ _; simp
        | cons f r ih =>
          intro o g hl hlen hb
          simp only [flatFs] at hl
          split at hl
          · rename_i hc
            split at hl
            · rename_i g1 i hg1 hi
              split at hl
              · rename_i hsz
                cases hr : flatFs P (flat P d) r (o + g1.length) with
                | none => rw [hr] at hl; cases hl
                | some g2 =>
                  rw [hr] at hl
                  simp only [Option.map_some, Option.some.injEq] at hl
                  subst hl
                  obtain ⟨e1, e2⟩ := shKs_app hb
                  simp only [List.length_append] at hlen e1 e2
                  rw [List.take_take, Nat.min_eq_left (by omega)] at e1
                  rw [List.drop_take, List.drop_drop] at e2
                  obtain ⟨D2, hD2, hone⟩ := flat_agg hg1
                  have p1 := part_val (P := P) hi hD2 (zs := xs) (off := o) (by omega) (fun ha => by rw [hsz]; exact hone ha) W
                  rw [hsz] at p1
                  have q := flat_check d f.type g1 hg1 D2 hD2 k em _ e1 W
                  have rest := ih (o + g1.length) g2 hr (by omega) (by
                    rw [show g1.length + g2.length - g1.length = g2.length by omega] at e2
                    exact e2)
                  simp only [List.forIn_cons, Sem.run_bind, hc.1, ne_eq, not_false_eq_true, if_true, hc.2, p1, q, Result.andThen_ok, Sem.run_pure]
                  exact rest
              · cases hl
            · cases hl
          · cases hl
      have hlen := shKs_len hx
      have z := key fs.toList 0 gs h (by omega) (by
        rw [List.drop_zero, List.take_of_length_le (by omega)]
        exact hx)
      simp only [valOf, aggD, if_true]
      rw [Instr.checkKey]
      simp only [Sem.run_bind, run_underlying hD, Result.andThen_ok]
      rw [← Array.forIn_toList]
      simp only [Sem.run_bind, z, Result.andThen_ok, Sem.run_pure]
    | array n e =>
      simp only at h
      split at h
      · rename_i g1 i hg1 hi
        split at h
        · rename_i hsz
          simp only [Option.some.injEq] at h
          obtain ⟨D2, hD2, hone⟩ := flat_agg hg1
          have key : ∀ (m j : Nat), shKs (List.replicate m g1).flatten (xs.drop (j * g1.length)) →
              (forIn (List.range' j m) PUnit.unit (fun (i : Nat) (_ : PUnit) => (do
                Instr.checkKey em (d + k) e (← part e xs.toArray (i * (← sizeOf e)))
                pure (ForInStep.yield PUnit.unit) : Sem (ForInStep PUnit)))).run P W = .ok PUnit.unit W := by
            intro m
            induction m with
            | zero => intro j _; simp
            | succ m ih =>
              intro j hb
              rw [List.replicate_succ, List.flatten_cons] at hb
              obtain ⟨e1, e2⟩ := shKs_app hb
              rw [List.drop_drop] at e2
              have l1 := shKs_len e1
              simp only [List.length_take, List.length_drop] at l1
              have hle : j * g1.length + i.size ≤ xs.length := by
                rw [hsz]
                rcases Nat.eq_zero_or_pos g1.length with h0 | h0
                · rw [h0]; simp
                · omega
              have p1 := part_val (P := P) hi hD2 (zs := xs) (off := j * g1.length) hle (fun ha => by rw [hsz]; exact hone ha) W
              rw [hsz] at p1
              have q := flat_check d e g1 hg1 D2 hD2 k em _ e1 W
              have rest := ih (j + 1) (by rw [Nat.succ_mul]; exact e2)
              rw [List.range'_succ]
              simp only [List.forIn_cons, Sem.run_bind, run_sizeOf' hi, p1, q, Result.andThen_ok, Sem.run_pure, hsz]
              exact rest
          have z := key n 0 (by subst h; simpa using hx)
          simp only [valOf, aggD, if_true]
          rw [Instr.checkKey]
          simp only [Sem.run_bind, run_underlying hD, Result.andThen_ok]
          simp only [Std.Legacy.Range.forIn_eq_forIn_range', Std.Legacy.Range.size, Nat.sub_zero, Nat.add_one_sub_one, Nat.div_one]
          simp only [Sem.run_bind, z, Result.andThen_ok, Sem.run_pure]
        · cases h
      · cases h
    | _ => cases h
theorem FlatOk.of {P : Program} {t : TypeId} {gs : List Nat} {D : TypeDesc} (d : Nat) (hd : d ≤ 10000) (h : flat P d t = some gs) (hD : P.underlying t = some D) (ha : aggD D = true) (hg : P.eqGuardType P.depth t = false) : FlatOk P t gs := by
  have key : ∀ xs ys b, eqVs gs xs ys = some b → ∀ W, (Op.equalIn 10000 t (.agg xs.toArray) (.agg ys.toArray)).run P W = .ok b W := fun xs ys b he W => by
    have := flat_eq d t gs h D hD (10000 - d) xs ys b he W
    rw [ha, show d + (10000 - d) = 10000 by omega] at this
    exact this
  refine ⟨hg, fun xs ys b he W => ?_, fun xs ys b he W => ?_, key, fun vs hv em W => by
    have := flat_check d t gs h D hD (10000 - d) em vs hv W
    rw [ha, show d + (10000 - d) = 10000 by omega] at this
    exact this⟩
  · rw [run_eql_struct, key xs ys b he W]; rfl
  · rw [run_neq_struct, key xs ys b he W]; rfl
end Go.Proofs.Ytcgoaicifjndpaa.Vx
