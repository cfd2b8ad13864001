/- The walker's operations that only compute or read: that each comes to what is said, all of them. -/
import Derived.Test.YtcgoaicifjndpaaVxMp
import Derived.Lib.SliceRun
import Derived.Laws.Cover3
namespace Go.Proofs.Ytcgoaicifjndpaa.Vx
open Go.RowKit
set_option linter.unusedVariables false
set_option linter.unusedSimpArgs false

theorem eqGuard_plain {P : Program} {op : BinOp} {t : TypeId} {x y : Operand} {a b : Value} (h1 : a ≠ .nilIface) (h2 : ∀ cs, a ≠ .agg cs) (W : World) : (eqGuard op t x y a b).run P W = .ok () W := by
  cases op <;> first
    | rfl
    | (cases a <;> first | rfl | (exact absurd rfl h1) | (exact absurd rfl (h2 _)))

theorem binOp_gives {ρ : List Pl} {P : Program} {S : World → Prop} {r : PR} {op : BinOp} {t : TypeId} {x y : Operand} {a b : Value} (h1 : a ≠ .nilIface) (h2 : ∀ cs, a ≠ .agg cs)
    (h : r.gives ρ P S (binOp op t a b)) : r.gives ρ P S (do eqGuard op t x y a b; binOp op t a b) := by
  have key : ∀ W, (do eqGuard op t x y a b; binOp op t a b : Sem Value).run P W = (binOp op t a b).run P W := fun W => by
    rw [Sem.run_bind, eqGuard_plain h1 h2 W]; rfl
  cases r with
  | ok v => obtain ⟨u, g1, g2⟩ := h; exact ⟨u, g1, fun W hW => (key W).trans (g2 W hW)⟩
  | okp pre v => intro hp; obtain ⟨u, g1, g2⟩ := h hp; exact ⟨u, g1, fun W hW => (key W).trans (g2 W hW)⟩
  | split b x y => obtain ⟨u, g1, g2⟩ := h; exact ⟨u, g1, fun W hW => (key W).trans (g2 W hW)⟩
  | okps pre b x y => intro hp; obtain ⟨u, g1, g2⟩ := h hp; exact ⟨u, g1, fun W hW => (key W).trans (g2 W hW)⟩
  | fork c x y => obtain ⟨b, hc, u, g1, g2⟩ := h; exact ⟨b, hc, u, g1, fun W hW => (key W).trans (g2 W hW)⟩
  | no => trivial

theorem bool_cases {ρ : List Pl} {x y : CV} {u v : Value} {b : Bool} (h : eqC .std 2 x y = some b) (hx : x.den ρ = some u) (hy : y.den ρ = some v) : ∃ p q, u = .bool p ∧ v = .bool q ∧ b = (p == q) := by
  have e := eqC_ok hx hy h
  cases u <;> simp only [eqV] at e <;> try (cases e; done)
  cases v <;> simp only [eqV] at e <;> try (cases e; done)
  exact ⟨_, _, rfl, rfl, (Option.some.inj e).symm⟩

theorem run_neq_bool {P : Program} {W : World} (t : TypeId) (a b : Bool) (h : P.underlying t = some .bool) : (binOp .neq t (.bool a) (.bool b)).run P W = .ok (.bool (!(a == b))) W := by
  have := run_eql_bool (P := P) W t a b h
  simp only [binOp, Sem.run_bind] at this ⊢
  cases hr : (Op.equal t (.bool a) (.bool b)).run P W with
  | ok v w =>
    rw [hr] at this
    simp at this
    simp [this]
  | halt x w => rw [hr] at this; simp at this

theorem kd_ptr {P : Program} {d : TypeDesc} {e : TypeId} (h : kdOf P d = .ptr e) : d = .pointer e := by
  unfold kdOf at h
  split at h <;> first | cases h; rfl | cases h | (split at h <;> cases h)

theorem bin_ok {ρ : List Pl} {P : Program} {E : Tbl} (hE : E.Ok P) {S : World → Prop} {op : BinOp} {t : TypeId} {x y : Operand} {a b : SV} {u v : Value} (ha : a.is ρ u) (hb : b.is ρ v) :
    (bin .std E op t a b).gives ρ P S (do eqGuard op t x y u v; binOp op t u v) := by
  unfold bin
  split
  · rename_i k n k' m
    have hu : u = .int k n := (Option.some.inj ha).symm
    have hv : v = .int k' m := (Option.some.inj hb).symm
    subst hu hv
    refine binOp_gives (by simp) (by simp) ?_
    split
    · intro hp
      have h0 : ¬ m < 0 := by
        have : 0 ≤ m := hp
        omega
      exact ⟨_, rfl, fun W _ => by simp [binOp, Op.shift, h0, Arith.std]⟩
    · intro hp
      have h0 : ¬ m < 0 := by
        have : 0 ≤ m := hp
        omega
      exact ⟨_, rfl, fun W _ => by simp [binOp, Op.shift, h0, Arith.std]⟩
    · split
      · rename_i hk
        subst hk
        exact binI_ok op k n m
      · trivial
  · rename_i l m
    have hu : u = .string ⟨l.toArray⟩ := (Option.some.inj ha).symm
    have hv : v = .string ⟨m.toArray⟩ := (Option.some.inj hb).symm
    subst hu hv
    exact binOp_gives (by simp) (by simp) (binS_ok op l m)
  · rename_i xs ys
    obtain ⟨us, hu1, rfl⟩ := ha
    obtain ⟨vs, hv1, rfl⟩ := hb
    unfold binA
    split
    · rename_i gs hgs
      have F := hE.F t gs hgs
      have guard : ∀ W, (eqGuard op t x y (.agg us.toArray) (.agg vs.toArray)).run P W = .ok () W := fun W => by
        cases op <;> first
          | rfl
          | (simp [eqGuard, F.guard]; done)
      split
      · rename_i b hb
        have e := eqCs_ok hu1 hv1 hb
        exact ⟨_, rfl, fun W _ => by rw [Sem.run_bind, guard W, Result.andThen_ok]; exact F.eql _ _ _ e W⟩
      · rename_i b hb
        have e := eqCs_ok hu1 hv1 hb
        exact ⟨_, rfl, fun W _ => by rw [Sem.run_bind, guard W, Result.andThen_ok]; exact F.neq _ _ _ e W⟩
      · trivial
    · trivial
  · rename_i k off
    have ha' : (CV.ptr k off).den ρ = some u := ha
    have hv : v = .pointer none := (Option.some.inj hb).symm
    subst hv
    obtain ⟨p, rfl⟩ : ∃ p, u = .pointer (some p) := by
      simp only [CV.den] at ha'
      cases hk : ρ[k]? with
      | none => rw [hk] at ha'; cases ha'
      | some p => rw [hk] at ha'; exact ⟨_, (Option.some.inj ha').symm⟩
    split
    · rename_i ti hti
      split
      · rename_i e hkd
        obtain ⟨i0, d0, z0, T⟩ := TI.spec (hE.T t ti hti)
        have hund : P.underlying t = some (.pointer e) := by rw [T.und, kd_ptr (T.kd.symm.trans hkd)]
        have hpt : P.underlying t = some (.pointer (P.pointee t)) := by
          rw [hund]
          simp [Program.pointee, hund]
        split
        · exact binOp_gives (by simp) (by simp) ⟨_, rfl, fun W _ => by rw [run_eql_pointer_nil W t _ hpt]; rfl⟩
        · exact binOp_gives (by simp) (by simp) ⟨_, rfl, fun W _ => by rw [run_neq_pointer_nil W t _ hpt]; rfl⟩
        · trivial
      · trivial
    · trivial
  · rename_i x' y' _ _ _
    split
    · rename_i ti hti
      split
      · rename_i hkd
        obtain ⟨i0, d0, z0, T⟩ := TI.spec (hE.T t ti hti)
        have hd := kd_bool (T.kd.symm.trans hkd)
        have hund : P.underlying t = some .bool := by rw [T.und, hd]
        unfold binB
        split
        · rename_i b hb'
          obtain ⟨p, q, rfl, rfl, rfl⟩ := bool_cases hb' ha hb
          exact binOp_gives (by simp) (by simp) ⟨_, rfl, fun W _ => run_eql_bool W t p q hund⟩
        · rename_i b hb'
          obtain ⟨p, q, rfl, rfl, rfl⟩ := bool_cases hb' ha hb
          exact binOp_gives (by simp) (by simp) ⟨_, rfl, fun W _ => run_neq_bool t p q hund⟩
        · trivial
      · trivial
    · trivial
  · trivial

theorem getElem?_str (l : List UInt8) (n : Nat) (h : n < l.length) : (⟨l.toArray⟩ : ByteArray)[n]? = some (l.getD n 0) := by
  have hs : n < (⟨l.toArray⟩ : ByteArray).size := h
  rw [getElem?_pos (⟨l.toArray⟩ : ByteArray) n hs]
  congr 1
  show l.toArray[n] = _
  simp [List.getD_eq_getElem?_getD, List.getElem?_eq_getElem h]

theorem bnd_run {P : Program} {k : IntKind} {n : Int} {y : Nat} {c : BoundsCode} (h0 : 0 ≤ n) (h1 : n ≤ y) (W : World) : (Instr.sliceBound (.int k n) y c).run P W = .ok n.toNat W := by
  simp [Instr.sliceBound, asIntOf, h0, h1]

theorem extract_str (l : List UInt8) (a b : Nat) : (⟨l.toArray⟩ : ByteArray).extract a b = ⟨((l.take b).drop a).toArray⟩ := by
  apply ByteArray.ext
  simp only [ByteArray.data_extract, List.extract_toArray, List.extract_eq_take_drop]
  congr 1
  rw [List.drop_take]
  
theorem den_ptr {ρ : List Pl} {k off : Nat} {u : Value} (h : (CV.ptr k off).den ρ = some u) : ∃ p, ρ[k]? = some p ∧ u = .pointer (some ⟨p.b, off, none⟩) := by
  simp only [CV.den] at h
  cases hk : ρ[k]? with
  | none => rw [hk] at h; cases h
  | some p => rw [hk] at h; exact ⟨p, rfl, (Option.some.inj h).symm⟩
theorem den_eptr {ρ : List Pl} {k i sz off : Nat} {u : Value} (h : (CV.eptr k i sz off).den ρ = some u) : ∃ p, ρ[k]? = some p ∧ u = .pointer (some ⟨p.b, p.o + i * sz + off, none⟩) := by
  simp only [CV.den] at h
  cases hk : ρ[k]? with
  | none => rw [hk] at h; cases h
  | some p => rw [hk] at h; exact ⟨p, rfl, (Option.some.inj h).symm⟩
theorem den_row {ρ : List Pl} {k : Nat} {u : Value} (h : (CV.row k).den ρ = some u) : ∃ p, ρ[k]? = some p ∧ u = p.v := by
  simp only [CV.den] at h
  cases hk : ρ[k]? with
  | none => rw [hk] at h; cases h
  | some p =>
    rw [hk] at h
    simp only at h
    by_cases ho : one p.v = true
    · rw [if_pos ho] at h; exact ⟨p, rfl, (Option.some.inj h).symm⟩
    · rw [if_neg ho] at h; cases h
theorem den_sl {ρ : List Pl} {k off len cap : Nat} {u : Value} (h : (CV.sl k off len cap).den ρ = some u) : ∃ p, ρ[k]? = some p ∧ u = .slice (some ⟨p.b, off, none⟩) len cap := by
  simp only [CV.den] at h
  cases hk : ρ[k]? with
  | none => rw [hk] at h; cases h
  | some p => rw [hk] at h; exact ⟨p, rfl, (Option.some.inj h).symm⟩
theorem kd_slice {P : Program} {d : TypeDesc} {e : TypeId} (h : kdOf P d = .slice e) : d = .slice e := by
  cases d <;> simp only [kdOf] at h <;> try (cases h; done)
  · cases h; rfl
  · split at h <;> cases h
theorem kd_array {P : Program} {d : TypeDesc} {n : Nat} {e : TypeId} (h : kdOf P d = .array n e) : d = .array n e := by
  cases d <;> simp only [kdOf] at h <;> try (cases h; done)
  · cases h; rfl
  · split at h <;> cases h

theorem run_loadVar_at {P : Program} {t : TypeId} {i : TypeInfo} {d : TypeDesc} (hi : P.info? t = some i) (hd : P.underlying t = some d) {vs : List Value} {off b o : Nat} {u : Value} {W : World}
    (hW : ∀ j v, vs[j]? = some v → W.cell? ⟨b, o + j, none⟩ = some v)
    (h : if aggD d then (off + i.size ≤ vs.length ∧ u = .agg ((vs.drop off).take i.size).toArray) else vs[off]? = some u) : (loadVar t ⟨b, o + off, none⟩).run P W = .ok u W := by
  cases ha : aggD d with
  | true =>
    rw [ha] at h
    simp only [if_true] at h
    rw [h.2]
    refine run_loadVar_mid W b (o + off) t _ d (fun j v hv => ?_) hd (by cases d <;> first | rfl | cases ha) (by simp [hi]; omega)
    simp only [List.getElem?_take, List.getElem?_drop] at hv
    split at hv
    · rw [Nat.add_assoc]; exact hW _ _ hv
    · cases hv
  | false =>
    rw [ha] at h
    simp only [Bool.false_eq_true, if_false] at h
    unfold loadVar
    rw [Sem.run_bind, run_isAgg hd W, Result.andThen_ok, ha]
    simp only [Bool.false_eq_true, if_false, run_load]
    rw [hW off u h]

theorem nums_bytes (l : List UInt8) : strOfNums (l.map fun c => (c.toNat : Int)) = ⟨l.toArray⟩ := by
  unfold strOfNums
  rw [List.map_map]
  congr 1
  congr 1
  rw [List.map_congr_left (g := id), List.map_id]
  intro c _
  apply UInt8.toNat_inj.1
  have := c.toNat_lt
  simp

theorem run_bytes_str {P : Program} {W : World} {s d e : TypeId} {v : Value} {l : List UInt8} (hs : P.underlying s = some (.slice e)) (he : P.underlying e = some (.int .u8)) (hd : P.underlying d = some .string)
    (h : BytesAt W e v l) : (convert s d v).run P W = .ok (.string ⟨l.toArray⟩) W := by
  have h0 := h
  rcases h with ⟨hv, hn⟩ | ⟨g, cap, cur, fz, hv, hh, _⟩
  · subst hv
    rw [run_convert_bytes_nil W s e hs he 0 0 _ hd]
    rw [hn]
    rfl
  · subst hv
    rw [run_convert_bytes_arg W s e hs he g 0 l.length cap (l.map fun c => (c.toNat : Int)) (by simp) (fun i hi => ?_) _ hd, nums_bytes]
    rw [Nat.zero_add, h0.cell (g := g) rfl i (by omega)]
    simp [byteV, List.getD, List.getElem?_eq_getElem hi]

theorem addr_add2 {a : Addr} {x y : Nat} : a.add (x + y) = (a.add x).add y := by
  obtain ⟨b, o, s⟩ := a
  unfold Addr.add
  by_cases hx : x = 0
  · subst hx; simp
  · by_cases hy : y = 0
    · subst hy; simp [hx]
    · simp [hx, hy, Nat.add_assoc]
theorem sliceBounds_run {ρ : List Pl} {P : Program} {e : Operand → SV} {a : Operand → Value} (he : ∀ x, (e x).is ρ (a x)) {lo hi : Option Operand} {p q : Int} {n cap : Nat} (hp : bnd 0 (lo.map e) = some p) (hq : bnd (Arith.std.natI n) (hi.map e) = some q)
    (h : 0 ≤ p ∧ p ≤ q ∧ q ≤ (n : Int)) (hcap : n ≤ cap) (W : World) : (Instr.sliceBounds true n cap (lo.map a) (hi.map a) none).run P W = .ok (p.toNat, q.toNat, cap) W := by
  unfold Instr.sliceBounds
  have hhi : (hi = none ∧ q = (n : Int)) ∨ ∃ y k, hi = some y ∧ a y = .int k q := bnd_ok he hq
  have hlo : (lo = none ∧ p = 0) ∨ ∃ y k, lo = some y ∧ a y = .int k p := bnd_ok he hp
  rcases hhi with ⟨rfl, rfl⟩ | ⟨y, k, rfl, hy⟩
  · rcases hlo with ⟨rfl, rfl⟩ | ⟨z, k2, rfl, hz⟩
    · simp
    · simp only [Option.map_none, Option.map_some, Sem.run_bind, Sem.run_pure, Result.andThen_ok, hz]
      rw [bnd_run h.1 h.2.1 W]
      simp
  · rcases hlo with ⟨rfl, rfl⟩ | ⟨z, k2, rfl, hz⟩
    · simp only [Option.map_none, Option.map_some, Sem.run_bind, Sem.run_pure, Result.andThen_ok, hy]
      rw [bnd_run (by omega) (by omega) W]
      simp
    · simp only [Option.map_none, Option.map_some, Sem.run_bind, Sem.run_pure, Result.andThen_ok, hy, hz]
      rw [bnd_run (by omega) (by omega) W]
      simp only [Result.andThen_ok]
      rw [bnd_run h.1 (by omega) W]
      simp

theorem ints_ok {ρ : List Pl} {k : IntKind} : ∀ {cs : List CV} {ns : List Int} {vs : List Value}, ints k cs = some ns → IsL ρ cs vs → vs = ns.map (Value.int k)
  | [], ns, vs, h, hv => by
    cases h
    cases vs with
    | nil => rfl
    | cons v vs => simp [IsL] at hv
  | c :: cs, ns, vs, h, hv => by
    unfold ints at h
    split at h
    · rename_i heq; cases heq
    · rename_i k' n r heq
      cases heq
      split at h
      · rename_i hk
        have hk : k = k' := by simpa using hk
        subst hk
        split at h
        · rename_i l hl
          cases h
          cases vs with
          | nil => simp [IsL] at hv
          | cons v vs =>
            simp only [IsL, List.map_cons, List.cons.injEq] at hv
            have := ints_ok hl hv.2
            rw [this, List.map_cons]
            congr 1
            exact (Option.some.inj hv.1).symm
        · cases h
      · cases h
    · cases h
theorem den_aptr {ρ : List Pl} {k i off m : Nat} {u : Value} (h : (CV.aptr k i off m).den ρ = some u) : ∃ p, ρ[k]? = some p ∧ u = .pointer (some ⟨p.b, off + i, none⟩) := by
  simp only [CV.den] at h
  cases hk : ρ[k]? with
  | none => rw [hk] at h; cases h
  | some p => rw [hk] at h; exact ⟨p, rfl, (Option.some.inj h).symm⟩
theorem globOf_ok {v : Value} {g : Nat} (h : globOf v = some g) : v = .pointer (some ⟨g, 0, none⟩) := by
  unfold globOf at h
  split at h
  · cases h; rfl
  · cases h
theorem findG_aux {g k sz n : Nat} : ∀ {h : List Ent} {k0 : Nat}, findG g h k0 = some (k, sz, n) → k0 ≤ k ∧ ∃ get, h[k - k0]? = some (.glob g sz n get)
  | [], k0, e => by cases e
  | x :: r, k0, e => by
    have rcd : findG g r (k0 + 1) = some (k, sz, n) → k0 ≤ k ∧ ∃ get, (x :: r)[k - k0]? = some (.glob g sz n get) := fun e => by
      obtain ⟨h1, get, h2⟩ := findG_aux e
      refine ⟨by omega, get, ?_⟩
      rw [show k - k0 = (k - (k0 + 1)) + 1 by omega, List.getElem?_cons_succ]
      exact h2
    cases x with
    | glob g' sz' n' get =>
      simp only [findG] at e
      split at e
      · rename_i hg
        cases e
        have hg : g = g' := by simpa using hg
        subst hg
        exact ⟨Nat.le_refl _, get, by simp⟩
      · exact rcd e
    | _ => exact rcd e
theorem findG_ok {g k sz n : Nat} {h : List Ent} (e : findG g h 0 = some (k, sz, n)) : ∃ get, h[k]? = some (.glob g sz n get) := by
  obtain ⟨_, get, h2⟩ := findG_aux e
  exact ⟨get, by simpa using h2⟩
theorem plC_ok {W : World} {b o sz : Nat} {D : Bool → Nat → Prop} {f : Nat → Cell} (h : ∀ j, j < sz → ∃ v, W.cell? ⟨b, o + j, none⟩ = some v ∧ (f j).shows W D v) : ∀ (off n : Nat) {cs : List CV}, off + n ≤ sz → plC f off n = some cs → ∃ vs, IsL [] cs vs ∧ ∀ j v, vs[j]? = some v → W.cell? ⟨b, o + (off + j), none⟩ = some v
  | off, 0, cs, _, hc => by
    cases hc
    exact ⟨[], rfl, fun j v hj => by simp at hj⟩
  | off, n + 1, cs, hle, hc => by
    simp only [plC] at hc
    split at hc
    · rename_i x hx
      split at hc
      · rename_i r hr
        cases hc
        obtain ⟨v, h1, h2⟩ := h off (by omega)
        rw [hx] at h2
        obtain ⟨vs, g1, g2⟩ := plC_ok h (off + 1) n (by omega) hr
        refine ⟨v :: vs, IsL.cons h2 g1, fun j u hj => ?_⟩
        cases j with
        | zero => simp at hj; subst hj; exact h1
        | succ j =>
          have := g2 j u (by simpa using hj)
          rwa [show off + (j + 1) = off + 1 + j by omega]
      · cases hc
    · cases hc
theorem caps1_ok {ρ : List Pl} {e : Operand → SV} {g : Operand → Value} (he : ∀ x, (e x).is ρ (g x)) : ∀ {l : List Operand} {cs : List CV}, caps1 (l.map e) = some cs → IsL ρ cs (l.map g)
  | [], cs, h => by cases h; rfl
  | x :: l, cs, h => by
    simp only [List.map_cons] at h
    have hx := he x
    cases hex : e x with
    | c y =>
      rw [hex] at h hx
      simp only [caps1] at h
      split at h
      · rename_i xs hr
        cases h
        exact IsL.cons hx (caps1_ok he hr)
      · cases h
    | _ => rw [hex] at h; simp [caps1] at h
theorem pev_ok {P : Program} {E : Tbl} (hE : E.Ok P) {ρ : List Pl} {h : List Ent} {t : List SV} {a : Act} (hs : IsS ρ t a.tmps.toList) {S : World → Prop} (hS : ∀ W, S W → MemOk ρ h W) (hS2 : ∀ W, S W → MemDat ρ h W) (hS0 : ∃ W, S W)
    (hl : h.length ≤ ρ.length) (o : Oper) : (pev .std E h (ev t) o.op).givesN ρ P S (execOp a.eval o) := by
  have he : ∀ x, (ev t x).is ρ (a.eval x) := ev_is hs
  obtain ⟨dst, op, type, pos, after, guard⟩ := o
  show (pev .std E h (ev t) op).givesN ρ P S _
  cases op <;> simp only [pev] <;> try exact trivial
  case move x => exact ⟨_, he x, fun W _ => rfl⟩
  case assign x => exact ⟨_, he x, fun W _ => rfl⟩
  case pick c x y =>
    have hc := he c
    split
    · rename_i h1; rw [h1] at hc
      have hu : a.eval c = .bool true := (Option.some.inj hc).symm
      exact ⟨_, he x, fun W _ => by simp [execOp, hu, asBool]⟩
    · rename_i h1; rw [h1] at hc
      have hu : a.eval c = .bool false := (Option.some.inj hc).symm
      exact ⟨_, he y, fun W _ => by simp [execOp, hu, asBool]⟩
    · rename_i q h1; rw [h1] at hc
      have hu : a.eval c = .bool q := (Option.some.inj hc).symm
      refine ⟨if q then a.eval x else a.eval y, ?_, fun W _ => by simp [execOp, hu, asBool]⟩
      cases q
      · exact he y
      · exact he x
    · trivial
  case nilCheck x =>
    have hx := he x
    split
    · rename_i k off h1; rw [h1] at hx
      have hx' : (CV.ptr k off).den ρ = some (a.eval x) := hx
      simp only [CV.den] at hx'
      cases hk : ρ[k]? with
      | none => rw [hk] at hx'; cases hx'
      | some p =>
        rw [hk] at hx'
        have hu := (Option.some.inj hx').symm
        exact ⟨_, hx, fun W _ => by simp [execOp, hu]⟩
    · rename_i k i sz off h1; rw [h1] at hx
      obtain ⟨p, hp, hu⟩ := den_eptr hx
      exact ⟨_, hx, fun W _ => by simp [execOp, hu]⟩
    · rename_i f cs h1; rw [h1] at hx
      have hx0 := hx
      obtain ⟨vs, hv, hu⟩ := hx
      exact ⟨_, hx0, fun W _ => by simp [execOp, hu]⟩
    · trivial
  case lookup t x i cm =>
    refine PR.lift ?_
    unfold lookM
    split
    · rename_i j h1
      have hx := he x
      rw [h1] at hx
      split
      · rename_i gs gs' l hm hk
        split
        · rename_i hg
          have hg := eq_of_beq hg
          subst hg
          split
          · rename_i v hv
            obtain ⟨hu, hsh⟩ := keyC_ok hv (he i)
            obtain ⟨p, hp, hpv⟩ := den_row hx
            obtain ⟨kt, et, ht, hz, M⟩ := mapTy_ok hE hm
            refine ⟨_, rfl, fun W hW => ?_⟩
            obtain ⟨h2, h3⟩ := hS W hW j _ p hk hp
            rw [hu, hpv, h2]
            exact mp_get ht hz M h3 hsh
          · trivial
        · trivial
      · trivial
    · trivial
  case makeFunc fn first captured =>
    obtain ⟨first⟩ := first
    obtain ⟨captured⟩ := captured
    unfold mkF
    dsimp only
    split
    · rename_i f _
      split
      · rename_i cs hcs
        refine ⟨_, ⟨_, caps1_ok he hcs, rfl⟩, fun W _ => ?_⟩
        simp [execOp, Instr.makeFunc]
      · trivial
    · trivial
  case binOp op ty x y yt =>
    refine PR.lift ?_
    unfold binN
    split
    rotate_left
    · exact bin_ok hE (he x) (he y)
    rename_i k h1 h2
    have hx := he x
    have hy := he y
    rw [h1] at hx
    rw [h2] at hy
    have hyv : a.eval y = .slice none 0 0 := (Option.some.inj hy).symm
    split
    · rename_i ti sz n hti hk0
      obtain ⟨en, hk, hen⟩ := Option.bind_eq_some_iff.1 hk0
      split
      · rename_i e hkd
        obtain ⟨i0, d0, z0, T⟩ := TI.spec (hE.T ty ti hti)
        have hund : P.underlying ty = some (.slice e) := by rw [T.und, kd_slice (T.kd.symm.trans hkd)]
        obtain ⟨p, hp, hu⟩ := den_row hx
        obtain ⟨W0, hW0⟩ := hS0
        obtain ⟨aa, cap, hpv, _, haa⟩ := Ent.shape_ok hen (hS W0 hW0 k _ p hk hp)
        have hxv : a.eval x = .slice aa n cap := hu.trans hpv
        have hc : aa.isNone = true → n = 0 := fun h => by
          rcases Nat.eq_zero_or_pos n with h0 | h0
          · exact h0
          · rw [haa h0] at h; cases h
        split
        · refine ⟨aa.isNone, hc, .bool aa.isNone, by cases aa <;> rfl, fun W hW => ?_⟩
          rw [hxv, hyv]
          show Sem.run P (do eqGuard .eql ty x y (.slice aa n cap) (.slice none 0 0); binOp .eql ty (.slice aa n cap) (.slice none 0 0)) W = _
          rw [Sem.run_bind, eqGuard_plain (by simp) (by simp) W]
          exact Lib.run_eql_slice_nil W ty e aa n cap 0 0 hund
        · refine ⟨aa.isNone, hc, .bool (!aa.isNone), by cases aa <;> rfl, fun W hW => ?_⟩
          rw [hxv, hyv]
          show Sem.run P (do eqGuard .neq ty x y (.slice aa n cap) (.slice none 0 0); binOp .neq ty (.slice aa n cap) (.slice none 0 0)) W = _
          rw [Sem.run_bind, eqGuard_plain (by simp) (by simp) W]
          exact run_neq_slice_nil W ty e aa n cap hund
        · trivial
      · trivial
    · trivial
  case unOp op ty x =>
    have hx := he x
    refine PR.lift ?_
    unfold un
    split
    · rename_i k n h1; rw [h1] at hx
      have hu : a.eval x = .int k n := (Option.some.inj hx).symm
      rw [hu]
      cases op <;> try exact trivial
      · dsimp only
        split
        · rename_i hsg
          intro hp
          refine ⟨_, rfl, fun W _ => ?_⟩
          have := fitStd_wrap hp
          simp [Arith.std] at this
          simp [Op.unary, Op.intArith, Arith.std, this]
        · refine ⟨_, rfl, fun W _ => ?_⟩
          simp [Op.unary, Op.intArith, Arith.std]
      · refine ⟨_, rfl, fun W _ => ?_⟩
        simp only [Op.unary, Op.intBits, Arith.std, bitsStd]
        cases k.signed <;> simp
    · rename_i h1; rw [h1] at hx
      have hu : a.eval x = .bool true := (Option.some.inj hx).symm
      rw [hu]
      cases op <;> first | exact trivial | exact ⟨_, rfl, fun W _ => rfl⟩
    · rename_i h1; rw [h1] at hx
      have hu : a.eval x = .bool false := (Option.some.inj hx).symm
      rw [hu]
      cases op <;> first | exact trivial | exact ⟨_, rfl, fun W _ => rfl⟩
    · rename_i b h1; rw [h1] at hx
      have hu : a.eval x = .bool b := (Option.some.inj hx).symm
      rw [hu]
      cases op <;> first | exact trivial | exact ⟨_, rfl, fun W _ => rfl⟩
    · trivial
  case convert s d x =>
    have hx := he x
    refine PR.lift ?_
    unfold conv
    split
    · rename_i i j hi hj
      obtain ⟨i1, d1, z1, T1⟩ := TI.spec (hE.T s i hi)
      obtain ⟨i2, d2, z2, T2⟩ := TI.spec (hE.T d j hj)
      split
      · rename_i k k' n hk hxv
        rw [hxv] at hx
        have hu : a.eval x = .int k' n := (Option.some.inj hx).symm
        have hd := kd_int (T2.kd.symm.trans hk)
        refine ⟨_, rfl, fun W _ => ?_⟩
        simp only [convert, Sem.run_bind, run_underlying T1.und, Result.andThen_ok, run_underlying T2.und, hd, hu]
        cases d1 <;> rfl
      · rename_i l hk hxv
        rw [hxv] at hx
        have hu : a.eval x = .string ⟨l.toArray⟩ := (Option.some.inj hx).symm
        have hd := kd_str (T2.kd.symm.trans hk)
        refine ⟨_, rfl, fun W _ => ?_⟩
        simp only [convert, Sem.run_bind, run_underlying T1.und, Result.andThen_ok, run_underlying T2.und, hd, hu]
        cases d1 <;> rfl
      · rename_i r hk hxv
        split
        · rename_i e e' l hik hr
          split
          · rename_i hb
            simp only [Bool.and_eq_true, Nat.beq_eq] at hb
            obtain ⟨he1, he2⟩ := hb
            subst he1
            have hd := kd_str (T2.kd.symm.trans hk)
            have hs' := kd_slice (T1.kd.symm.trans hik)
            have hundS : P.underlying s = some (.slice e) := by rw [T1.und, hs']
            have hundD : P.underlying d = some .string := by rw [T2.und, hd]
            have hu8 : P.underlying e = some (.int .u8) := by
              unfold isU8 at he2
              split at he2
              · rename_i ei hei
                split at he2
                · rename_i hk8
                  obtain ⟨i3, d3, z3, T3⟩ := TI.spec (hE.T e ei hei)
                  rw [T3.und, kd_int (T3.kd.symm.trans hk8)]
                · cases he2
              · cases he2
            rw [hxv] at hx
            obtain ⟨p, hp, hu⟩ := den_row hx
            refine ⟨_, rfl, fun W hW => ?_⟩
            have hok := hS W hW r _ p hr hp
            rw [hu]
            exact run_bytes_str hundS hu8 hundD hok.1
          · trivial
        · trivial
      · rename_i r off len cap hk hxv
        split
        · rename_i e t3 cs hik hr
          split
          · rename_i he2
            split
            · rename_i ns hns
              split
              · rename_i hlen
                have hlen : ns.length = len := by simpa using hlen
                have hd := kd_str (T2.kd.symm.trans hk)
                have hs' := kd_slice (T1.kd.symm.trans hik)
                have hundS : P.underlying s = some (.slice e) := by rw [T1.und, hs']
                have hundD : P.underlying d = some .string := by rw [T2.und, hd]
                have hu8 : P.underlying e = some (.int .u8) := by
                  unfold isU8 at he2
                  split at he2
                  · rename_i ei hei
                    split at he2
                    · rename_i hk8
                      obtain ⟨i3, d3, z3, T3⟩ := TI.spec (hE.T e ei hei)
                      rw [T3.und, kd_int (T3.kd.symm.trans hk8)]
                    · cases he2
                  · cases he2
                rw [hxv] at hx
                obtain ⟨p, hp, hu⟩ := den_sl hx
                refine ⟨_, rfl, fun W hW => ?_⟩
                obtain ⟨vs, hv1, hv2⟩ := hS W hW r _ p hr hp
                have hvs := ints_ok hns ((hv1.drop off).take len)
                rw [hu, run_convert_bytes_arg W s e hundS hu8 p.b off len cap ns hlen (fun i hi => ?_) _ hundD]
                · rfl
                · rw [cell_of_row W p.b (off + i) _ t3 (0, 0) hv2]
                  have := congrArg (fun l => l[i]?) hvs
                  simp only [List.getElem?_take, List.getElem?_drop, if_pos hi, List.getElem?_map] at this
                  have hin : i < ns.length := by omega
                  rw [List.getElem?_eq_getElem hin] at this
                  simpa [List.getD, hin] using this
              · trivial
            · trivial
          · trivial
        · trivial
      · rename_i hk hxv
        split
        · rename_i e hik
          split
          · rename_i he2
            have hd := kd_str (T2.kd.symm.trans hk)
            have hs' := kd_slice (T1.kd.symm.trans hik)
            have hundS : P.underlying s = some (.slice e) := by rw [T1.und, hs']
            have hundD : P.underlying d = some .string := by rw [T2.und, hd]
            have hu8 : P.underlying e = some (.int .u8) := by
              unfold isU8 at he2
              split at he2
              · rename_i ei hei
                split at he2
                · rename_i hk8
                  obtain ⟨i3, d3, z3, T3⟩ := TI.spec (hE.T e ei hei)
                  rw [T3.und, kd_int (T3.kd.symm.trans hk8)]
                · cases he2
              · cases he2
            rw [hxv] at hx
            have hu : a.eval x = .slice none 0 0 := (Option.some.inj hx).symm
            refine ⟨_, rfl, fun W hW => ?_⟩
            rw [hu]
            exact run_bytes_str hundS hu8 hundD (BytesAt.nil W e)
          · trivial
        · trivial
      · trivial
    · trivial
  case fieldAddr ty x f =>
    have hx := he x
    split
    · rename_i o n b k off hf h1
      split
      · trivial
      · rename_i hn
        have hn0 : ¬ n = 0 := fun e => hn (by rw [e]; rfl)
        obtain ⟨fs, fd, i, d, g1, g2, g3, g4, g5, g6, g7⟩ := fieldRow_ok hE hf
        rw [h1] at hx
        have hx' : (CV.ptr k off).den ρ = some (a.eval x) := hx
        simp only [CV.den] at hx'
        cases hk : ρ[k]? with
        | none => rw [hk] at hx'; cases hx'
        | some p =>
          rw [hk] at hx'
          have hu := (Option.some.inj hx').symm
          refine ⟨.pointer (some ⟨p.b, off + o, none⟩), by simp [SV.is, CV.den, hk], fun W _ => ?_⟩
          simp only [execOp, Sem.run_bind, Instr.fieldAt, run_underlying g1, Result.andThen_ok, g2, hu, Instr.sureAddr, Sem.run_pure, fieldPlace, run_sizeOf' g3, g6]
          rw [if_neg hn0]
          simp [Addr.add_mid, g5]
    · rename_i o n b k j sz off hf h1
      split
      · trivial
      · rename_i hn
        have hn0 : ¬ n = 0 := fun e => hn (by rw [e]; rfl)
        obtain ⟨fs, fd, i, d, g1, g2, g3, g4, g5, g6, g7⟩ := fieldRow_ok hE hf
        rw [h1] at hx
        obtain ⟨p, hp, hu⟩ := den_eptr hx
        refine ⟨.pointer (some ⟨p.b, p.o + j * sz + (off + o), none⟩), by simp [SV.is, CV.den, hp], fun W _ => ?_⟩
        simp only [execOp, Sem.run_bind, Instr.fieldAt, run_underlying g1, Result.andThen_ok, g2, hu, Instr.sureAddr, Sem.run_pure, fieldPlace, run_sizeOf' g3, g6]
        rw [if_neg hn0]
        simp [Addr.add_mid, g5, Nat.add_assoc]
    · trivial
  case indexAddr ty x ix =>
    have hx := he x
    have hi := he ix
    refine PR.lift ?_
    unfold idxAddr
    split
    · rename_i k kk n h1 h2
      split
      · rename_i ti sz m hti hk0
        obtain ⟨en, hk, hen⟩ := Option.bind_eq_some_iff.1 hk0
        split
        · rename_i e hkd
          split
          · rename_i ei hei
            split
            · rename_i hsz
              obtain ⟨i0, d0, z0, T⟩ := TI.spec (hE.T ty ti hti)
              obtain ⟨i1, d1, z1, T1⟩ := TI.spec (hE.T e ei hei)
              have hd := kd_slice (T.kd.symm.trans hkd)
              rw [h1] at hx
              rw [h2] at hi
              obtain ⟨p, hp, hu⟩ := den_row hx
              have hv : a.eval ix = .int kk n := (Option.some.inj hi).symm
              obtain ⟨W0, hW0⟩ := hS0
              obtain ⟨aa, cap, hpv, _, haa⟩ := Ent.shape_ok hen (hS W0 hW0 k _ p hk hp)
              intro hpre
              have hpre' : 0 ≤ n ∧ n < (m : Int) := hpre
              have hs1 : i1.size = sz := by rw [T1.size]; simpa using hsz
              refine ⟨.pointer (some ⟨p.b, p.o + n.toNat * sz + 0, none⟩), by simp [SV.is, CV.den, hp, Arith.std], fun W _ => ?_⟩
              rw [hu, hpv, haa (by omega), hv]
              have hund : P.underlying ty = some (.slice e) := by rw [T.und, hd]
              simp only [Instr.indexAt, asIntOf, Sem.run_bind, Sem.run_pure, Result.andThen_ok, run_underlying hund]
              rw [if_pos hpre']
              simp only [Sem.run_bind, run_sizeOf' T1.info, Result.andThen_ok, Sem.run_pure, hs1, Addr.add_mid, Nat.add_zero]
            · trivial
          · trivial
        · trivial
      · trivial
    · rename_i k lo m sz' kk n h1 h2
      split
      · rename_i ti sz m' hti hk0
        obtain ⟨en, hk, hen⟩ := Option.bind_eq_some_iff.1 hk0
        split
        · rename_i e hkd
          split
          · rename_i ei hei
            split
            · rename_i hsz
              simp only [Bool.and_eq_true, Nat.beq_eq] at hsz
              obtain ⟨hsz, rfl⟩ := hsz
              obtain ⟨i0, d0, z0, T⟩ := TI.spec (hE.T ty ti hti)
              obtain ⟨i1, d1, z1, T1⟩ := TI.spec (hE.T e ei hei)
              have hd := kd_slice (T.kd.symm.trans hkd)
              rw [h1] at hx
              rw [h2] at hi
              obtain ⟨p, aa, mm, cap, hp, hpv, hmm, hu⟩ := den_vsl hx
              have hv : a.eval ix = .int kk n := (Option.some.inj hi).symm
              obtain ⟨W0, hW0⟩ := hS0
              obtain ⟨_, _, haa⟩ := shape_part hen (hS W0 hW0 k _ p hk hp) hpv hmm
              intro hpre
              have hpre' : 0 ≤ n ∧ n < (m : Int) := hpre
              have hs1 : i1.size = sz := by rw [T1.size]; exact hsz
              refine ⟨.pointer (some ⟨p.b, p.o + (lo + n.toNat) * sz + 0, none⟩), by simp [SV.is, CV.den, hp, Arith.std], fun W _ => ?_⟩
              rw [hu, haa (by omega), hv]
              have hund : P.underlying ty = some (.slice e) := by rw [T.und, hd]
              simp only [Instr.indexAt, asIntOf, Sem.run_bind, Sem.run_pure, Result.andThen_ok, run_underlying hund]
              rw [if_pos hpre']
              simp only [Sem.run_bind, run_sizeOf' T1.info, Result.andThen_ok, Sem.run_pure, hs1, Addr.add_mid, Nat.add_zero, Nat.add_mul, Nat.add_assoc]
            · trivial
          · trivial
        · trivial
      · trivial
    · rename_i k off len cap kk n h1 h2
      split
      · rename_i ti hti
        split
        · rename_i e hkd
          split
          · rename_i ei hei
            obtain ⟨i0, d0, z0, T⟩ := TI.spec (hE.T ty ti hti)
            obtain ⟨i1, d1, z1, T1⟩ := TI.spec (hE.T e ei hei)
            have hd := kd_slice (T.kd.symm.trans hkd)
            rw [h1] at hx
            rw [h2] at hi
            obtain ⟨p, hp, hu⟩ := den_sl hx
            have hv : a.eval ix = .int kk n := (Option.some.inj hi).symm
            have go : (0 ≤ n ∧ n < (len : Int)) → ∀ W, (Instr.indexAt ty (a.eval x) (a.eval ix)).run P W = .ok (.pointer (some ⟨p.b, off + n.toNat * ei.size, none⟩)) W := fun hpre' W => by
              rw [hu, hv]
              have hund : P.underlying ty = some (.slice e) := by rw [T.und, hd]
              simp only [Instr.indexAt, asIntOf, Sem.run_bind, Sem.run_pure, Result.andThen_ok, run_underlying hund]
              rw [if_pos hpre']
              simp only [Sem.run_bind, run_sizeOf' T1.info, Result.andThen_ok, Sem.run_pure, T1.size, Addr.add_mid]
            split
            · rename_i hsy
              have hs1 : ei.size = 1 := by
                simp only [Bool.and_eq_true, Nat.beq_eq] at hsy
                exact hsy.2
              intro hpre
              refine ⟨.pointer (some ⟨p.b, off + n.toNat, none⟩), by simp [SV.is, CV.den, hp, Arith.std], fun W _ => ?_⟩
              rw [go hpre, hs1, Nat.mul_one]
            · intro hpre
              exact ⟨.pointer (some ⟨p.b, off + n.toNat * ei.size, none⟩), by simp [SV.is, CV.den, hp], fun W _ => go hpre W⟩
          · trivial
        · trivial
      · trivial
    · rename_i k off kk n h1 h2
      split
      · rename_i ti hti
        split
        · rename_i m e hkd
          split
          · rename_i ei hei
            obtain ⟨i0, d0, z0, T⟩ := TI.spec (hE.T ty ti hti)
            obtain ⟨i1, d1, z1, T1⟩ := TI.spec (hE.T e ei hei)
            have hd := kd_array (T.kd.symm.trans hkd)
            rw [h1] at hx
            rw [h2] at hi
            obtain ⟨p, hp, hu⟩ := den_ptr hx
            have hv : a.eval ix = .int kk n := (Option.some.inj hi).symm
            have go : (0 ≤ n ∧ n < (m : Int)) → ∀ W, (Instr.indexAt ty (a.eval x) (a.eval ix)).run P W = .ok (.pointer (some ⟨p.b, off + n.toNat * ei.size, none⟩)) W := fun hpre' W => by
              rw [hu, hv]
              have hund : P.underlying ty = some (.array m e) := by rw [T.und, hd]
              simp only [Instr.indexAt, asIntOf, Sem.run_bind, Sem.run_pure, Result.andThen_ok, run_underlying hund, Instr.sureAddr]
              rw [if_pos hpre']
              simp only [Sem.run_bind, run_sizeOf' T1.info, Result.andThen_ok, Sem.run_pure, T1.size, Addr.add_mid]
            split
            · rename_i hsy
              have hs1 : ei.size = 1 := by
                simp only [Bool.and_eq_true, Nat.beq_eq] at hsy
                exact hsy.2
              intro hpre
              refine ⟨.pointer (some ⟨p.b, off + n.toNat, none⟩), by simp [SV.is, CV.den, hp, Arith.std], fun W _ => ?_⟩
              rw [go hpre, hs1, Nat.mul_one]
            · intro hpre
              exact ⟨.pointer (some ⟨p.b, off + n.toNat * ei.size, none⟩), by simp [SV.is, CV.den, hp], fun W _ => go hpre W⟩
          · trivial
        · trivial
      · trivial
    · rename_i v kk n h1 h2
      split
      · rename_i g hg
        split
        · rename_i k sz m ti hfg hti
          split
          · rename_i m' e hkd
            split
            · rename_i ei hei
              split
              · rename_i hb
                simp only [Bool.and_eq_true, Nat.beq_eq] at hb
                obtain ⟨hb1, rfl⟩ := hb
                obtain ⟨get, hk⟩ := findG_ok hfg
                obtain ⟨i0, d0, z0, T⟩ := TI.spec (hE.T ty ti hti)
                obtain ⟨i1, d1, z1, T1⟩ := TI.spec (hE.T e ei hei)
                have hd := kd_array (T.kd.symm.trans hkd)
                rw [h1] at hx
                rw [h2] at hi
                have hv : a.eval ix = .int kk n := (Option.some.inj hi).symm
                obtain ⟨W0, hW0⟩ := hS0
                have hklt : k < ρ.length := Nat.lt_of_lt_of_le (List.getElem?_eq_some_iff.1 hk).1 hl
                have hp := List.getElem?_eq_getElem hklt
                obtain ⟨⟨hpb, hpo⟩, _⟩ := hS W0 hW0 k _ _ hk hp
                have hu : a.eval x = .pointer (some ⟨g, 0, none⟩) := by
                  have := globOf_ok hg
                  subst this
                  have hx' : (CV.val (.pointer (some ⟨g, 0, none⟩))).den ρ = some (a.eval x) := hx
                  simp only [CV.den, Vx.one, if_true] at hx'
                  exact (Option.some.inj hx').symm
                intro hpre
                have hpre' : 0 ≤ n ∧ n < (m : Int) := hpre
                have hs1 : i1.size = sz := by rw [T1.size]; exact hb1
                refine ⟨.pointer (some ⟨ρ[k].b, ρ[k].o + n.toNat * sz + 0, none⟩), by simp [SV.is, CV.den, hp, Arith.std], fun W _ => ?_⟩
                rw [hu, hv, hpb, hpo]
                have hund : P.underlying ty = some (.array m e) := by rw [T.und, hd]
                simp only [Instr.indexAt, asIntOf, Sem.run_bind, Sem.run_pure, Result.andThen_ok, run_underlying hund, Instr.sureAddr]
                rw [if_pos hpre']
                simp only [Sem.run_bind, run_sizeOf' T1.info, Result.andThen_ok, Sem.run_pure, hs1, Addr.add_mid, Nat.add_zero]
              · trivial
            · trivial
          · trivial
        · trivial
      · trivial
    · trivial
  case field ty x f =>
    have hx := he x
    split
    · rename_i o n b cs hf h1
      obtain ⟨fs, fd, i, d, g1, g2, g3, g4, g5, g6, g7⟩ := fieldRow_ok hE hf
      rw [h1] at hx
      obtain ⟨vs, hv, hu⟩ := hx
      refine PR.lift (PR.ag_gives hv b o n fun u hu2 W _ => ?_)
      rw [hu]
      simp only [Instr.field, Sem.run_bind, run_underlying g1, Result.andThen_ok, g2, asAgg, Sem.run_pure]
      subst g5 g6 g7
      exact run_part g3 g4 hu2 W
    · trivial
  case load ty x =>
    have hx := he x
    refine PR.lift ?_
    unfold loadR
    split
    · rename_i k off h1
      split
      · rename_i i ty2 cs hi hk
        obtain ⟨i1, d1, z1, T1⟩ := TI.spec (hE.T ty i hi)
        rw [h1] at hx
        have hx' : (CV.ptr k off).den ρ = some (a.eval x) := hx
        simp only [CV.den] at hx'
        cases hp : ρ[k]? with
        | none => rw [hp] at hx'; cases hx'
        | some p =>
          rw [hp] at hx'
          have hu := (Option.some.inj hx').symm
          obtain ⟨W0, hW0⟩ := hS0
          obtain ⟨vs, hv, _⟩ := hS W0 hW0 k _ p hk hp
          refine PR.ag_gives hv i.agg off i.size fun u hu2 W hW => ?_
          obtain ⟨vs', hv', hb⟩ := hS W hW k _ p hk hp
          have := hv.unique hv'
          subst this
          rw [hu]
          simp only [Instr.loadAt, Instr.sureAddr, Sem.run_bind, Sem.run_pure, Result.andThen_ok]
          rw [T1.agg, ← T1.size] at hu2
          exact run_loadVar T1.info T1.und hb hu2
      · trivial
    · rename_i k i sz off h1
      split
      · rename_i ti sz' n get hti hk0
        obtain ⟨en, hk, hen⟩ := Option.bind_eq_some_iff.1 hk0
        split
        · rename_i hsz
          have hsz' : sz = sz' := by simpa using hsz
          subst hsz'
          split
          · rename_i v hv
            intro hpre
            have hin : i < n := hpre
            obtain ⟨i1, d1, z1, T1⟩ := TI.spec (hE.T ty ti hti)
            rw [h1] at hx
            obtain ⟨p, hp, hu⟩ := den_eptr hx
            obtain ⟨W0, hW0⟩ := hS0
            obtain ⟨vs, hvs, _⟩ := Ent.elts_ok hen (hS W0 hW0 k _ p hk hp) i hin
            have hag := ag_ok (ρ := ρ) (by simpa using hvs.app_ρ ρ) ti.agg off ti.size
            rw [hv] at hag
            obtain ⟨u, hu1, hu2⟩ := hag
            refine ⟨u, hu1, fun W hW => ?_⟩
            obtain ⟨vs', hvs', hb⟩ := Ent.elts_ok hen (hS W hW k _ p hk hp) i hin
            have := hvs.unique hvs'
            subst this
            rw [hu]
            simp only [Instr.loadAt, Instr.sureAddr, Sem.run_bind, Sem.run_pure, Result.andThen_ok]
            rw [T1.agg, ← T1.size] at hu2
            exact run_loadVar_at T1.info T1.und hb hu2
          · trivial
        · trivial
      · rename_i ti hti hk0
        split
        · rename_i fr sz' n get hk1
          obtain ⟨en, hk, hen⟩ := Option.bind_eq_some_iff.1 hk1
          split
          · rename_i hsz
            simp only [Bool.and_eq_true, Nat.beq_eq, Nat.ble_eq] at hsz
            obtain ⟨rfl, hle⟩ := hsz
            split
            · rename_i cs hcs
              split
              · rename_i v hv
                intro hpre
                have hin : i < n := hpre
                obtain ⟨i1, d1, z1, T1⟩ := TI.spec (hE.T ty ti hti)
                rw [h1] at hx
                obtain ⟨p, hp, hu⟩ := den_eptr hx
                obtain ⟨W0, hW0⟩ := hS0
                have cell : ∀ W, S W → ∃ vs, IsL [] cs vs ∧ ∀ j v, vs[j]? = some v → W.cell? ⟨p.b, p.o + i * sz + off + j, none⟩ = some v := fun W hW => by
                  obtain ⟨D, hD⟩ := hS2 W hW k _ p hk hp
                  obtain ⟨_, hcell⟩ := Ent.dview_ok hen (hS W hW k _ p hk hp) hD
                  obtain ⟨vs, g1, g2⟩ := plC_ok (W := W) (b := p.b) (o := p.o + i * sz) (D := subD D fr) (f := get i) (fun j hj => hcell i j hin hj) off ti.size hle hcs
                  exact ⟨vs, g1, fun j v hj => by rw [Nat.add_assoc (p.o + i * sz)]; exact g2 j v hj⟩
                obtain ⟨vs, hvs, _⟩ := cell W0 hW0
                have hag := ag_ok (ρ := ρ) (by simpa using hvs.app_ρ ρ) ti.agg 0 ti.size
                rw [hv] at hag
                obtain ⟨u, hu1, hu2⟩ := hag
                refine ⟨u, hu1, fun W hW => ?_⟩
                obtain ⟨vs', hvs', hb⟩ := cell W hW
                have := hvs.unique hvs'
                subst this
                rw [hu]
                simp only [Instr.loadAt, Instr.sureAddr, Sem.run_bind, Sem.run_pure, Result.andThen_ok]
                rw [T1.agg, ← T1.size] at hu2
                have := run_loadVar_at T1.info T1.und (off := 0) hb hu2
                rwa [Nat.add_zero] at this
              · trivial
            · trivial
          · trivial
        · trivial
      · trivial
    · rename_i k i off m h1
      split
      · rename_i ti ty2 cs hti hk
        split
        · rename_i kk hkd hagg
          split
          · rename_i es hes
            split
            · rename_i hlen
              have hlen : es.length = m := by simpa using hlen
              intro hpre
              have hin : i < m := hpre
              obtain ⟨i1, d1, z1, T1⟩ := TI.spec (hE.T ty ti hti)
              rw [h1] at hx
              obtain ⟨p, hp, hu⟩ := den_aptr hx
              refine ⟨.int kk (es.getD i 0), rfl, fun W hW => ?_⟩
              obtain ⟨vs, hv1, hv2⟩ := hS W hW k _ p hk hp
              have hvs := ints_ok hes ((hv1.drop off).take m)
              have hcell : vs[off + i]? = some (.int kk (es.getD i 0)) := by
                have := congrArg (fun l => l[i]?) hvs
                simp only [List.getElem?_take, List.getElem?_drop, if_pos hin, List.getElem?_map] at this
                have hin' : i < es.length := by omega
                rw [List.getElem?_eq_getElem hin'] at this
                simpa [List.getD, hin'] using this
              rw [hu]
              simp only [Instr.loadAt, Instr.sureAddr, Sem.run_bind, Sem.run_pure, Result.andThen_ok]
              refine run_loadVar T1.info T1.und hv2 ?_
              rw [← T1.agg, hagg]
              simpa using hcell
            · trivial
          · trivial
        · trivial
      · trivial
    · trivial
  case extract x i =>
    have hx := he x
    split
    · rename_i vs h1
      rw [h1] at hx
      obtain ⟨us, hu1, hu2⟩ := hx
      have key : ∀ (vs : List (Option CV × List CV)) (us : List Value) (i : Nat) (e : Option CV × List CV), Elts ρ vs us → vs[i]? = some e → ∃ u, us[i]? = some u ∧ Elt ρ e u := by
        intro vs
        induction vs with
        | nil => intro us i e _ h; simp at h
        | cons v vs ih =>
          intro us i e h h2
          obtain ⟨u, us', rfl, g1, g2⟩ := h
          cases i with
          | zero => simp at h2; subst h2; exact ⟨u, rfl, g1⟩
          | succ i => simpa using ih us' i e g2 (by simpa using h2)
      split
      · rename_i y cs hy
        obtain ⟨u, g1, g2⟩ := key _ _ _ _ hu1 hy
        exact ⟨u, g2, fun W _ => by simp [execOp, hu2, Instr.extract, g1]⟩
      · rename_i cs hy
        obtain ⟨u, g1, g2⟩ := key _ _ _ _ hu1 hy
        exact ⟨u, g2, fun W _ => by simp [execOp, hu2, Instr.extract, g1]⟩
      · trivial
    · trivial
  case index ty x i =>
    have hx := he x
    have hi := he i
    refine PR.lift ?_
    unfold idx
    split
    · rename_i l k n h1 h2
      split
      · rename_i ti hti
        split
        · rename_i hkd
          obtain ⟨i0, d0, z0, T⟩ := TI.spec (hE.T ty ti hti)
          have hd := kd_str (T.kd.symm.trans hkd)
          rw [h1] at hx
          rw [h2] at hi
          have hu : a.eval x = .string ⟨l.toArray⟩ := (Option.some.inj hx).symm
          have hv : a.eval i = .int k n := (Option.some.inj hi).symm
          intro hp
          have hp' : 0 ≤ n ∧ n < (l.length : Int) := hp
          refine ⟨_, rfl, fun W _ => ?_⟩
          rw [hu, hv]
          have hg := getElem?_str l n.toNat (by omega)
          simp only [Instr.index, asIntOf, Sem.run_bind, Sem.run_pure, Result.andThen_ok, run_underlying T.und, hd]
          rw [if_pos hp'.1, hg]
          rfl
        · trivial
      · trivial
    · rename_i cs k n h1 h2
      split
      · rename_i ti hti
        split
        · rename_i m e hkd
          split
          · rename_i ei hei
            split
            · rename_i v w hv hw
              obtain ⟨i0, d0, z0, T⟩ := TI.spec (hE.T ty ti hti)
              obtain ⟨i1, d1, z1, T1⟩ := TI.spec (hE.T e ei hei)
              have hund : P.underlying ty = some (.array 2 e) := by rw [T.und, kd_array (T.kd.symm.trans hkd)]
              rw [h1] at hx
              rw [h2] at hi
              obtain ⟨vs, hvs, hu⟩ := hx
              have hiv : a.eval i = .int k n := (Option.some.inj hi).symm
              intro hp
              have hp' : 0 ≤ n ∧ n < ((2 : Nat) : Int) := hp
              have key : ∀ {z : SV} {off : Nat}, off = n.toNat * ei.size → ag ei.agg cs off ei.size = .ok z → ∃ u, z.is ρ u ∧ ∀ W, S W → (Instr.index ty (a.eval x) (a.eval i)).run P W = .ok u W := fun {z off} ho hx2 => by
                have hag := ag_ok hvs ei.agg off ei.size
                rw [hx2] at hag
                obtain ⟨u, hu1, hu2⟩ := hag
                refine ⟨u, hu1, fun W _ => ?_⟩
                rw [hu, hiv]
                simp only [Instr.index, asIntOf, Sem.run_bind, Sem.run_pure, Result.andThen_ok, run_underlying hund]
                rw [if_pos hp']
                simp only [Sem.run_bind, run_sizeOf' T1.info, Result.andThen_ok]
                rw [T1.agg, ← T1.size, ho, ← T1.size] at hu2
                exact run_part T1.info T1.und hu2 W
              by_cases hn : n = 0
              · have : (Arith.std.eq n 0) = true := by simp [Arith.std, hn]
                rw [this]
                exact key (by rw [hn]; simp) hv
              · have : (Arith.std.eq n 0) = false := by simp [Arith.std, hn]
                rw [this]
                exact key (by rw [show n.toNat = 1 by omega]; simp) hw
            · rename_i m m9 pa pb hne
              split
              · rename_i kk hkk hag0
                split
                · rename_i es hes
                  split
                  · rename_i hb
                    simp only [Bool.and_eq_true, Nat.beq_eq] at hb
                    obtain ⟨hb1, hb2⟩ := hb
                    obtain ⟨i0, d0, z0, T⟩ := TI.spec (hE.T ty ti hti)
                    obtain ⟨i1, d1, z1, T1⟩ := TI.spec (hE.T e ei hei)
                    have hund : P.underlying ty = some (.array m e) := by rw [T.und, kd_array (T.kd.symm.trans hkd)]
                    have hundE : P.underlying e = some (.int kk) := by rw [T1.und, kd_int (T1.kd.symm.trans hkk)]
                    rw [h1] at hx
                    rw [h2] at hi
                    obtain ⟨vs, hvs, hu⟩ := hx
                    have hiv : a.eval i = .int k n := (Option.some.inj hi).symm
                    have hv2 := ints_ok hes hvs
                    have go : (0 ≤ n ∧ n < (m : Int)) → ∀ W, S W → (Instr.index ty (a.eval x) (a.eval i)).run P W = .ok (.int kk (es.getD n.toNat 0)) W := fun hp' W _ => by
                      have hlt : n.toNat < es.length := by omega
                      rw [hu, hiv]
                      simp only [Instr.index, asIntOf, Sem.run_bind, Sem.run_pure, Result.andThen_ok, run_underlying hund]
                      rw [if_pos hp']
                      simp only [Sem.run_bind, run_sizeOf' T1.info, Result.andThen_ok]
                      refine run_part T1.info T1.und ?_ W
                      have hagg : aggD d1 = false := by rw [← T1.agg]; exact hag0
                      rw [hagg, T1.size, hb2, Nat.mul_one]
                      simp only [Bool.false_eq_true, if_false]
                      rw [hv2, List.getElem?_map, List.getElem?_eq_getElem hlt]
                      simp [List.getD, hlt]
                    split
                    · intro hp
                      exact ⟨_, rfl, go hp⟩
                    · intro hp
                      exact ⟨_, rfl, go hp⟩
                  · trivial
                · trivial
              · trivial
          · trivial
        · trivial
      · trivial
    · trivial
  case slice ty x lo hi mx =>
    have hx := he x
    refine PR.lift ?_
    unfold slc
    split
    · rename_i l h1 h2
      have hmx : mx = none := by cases mx with
        | none => rfl
        | some m => simp at h2
      subst hmx
      split
      · rename_i ti hti
        split
        · rename_i hkd
          split
          · rename_i p q hp hq
            obtain ⟨i0, d0, z0, T⟩ := TI.spec (hE.T ty ti hti)
            have hd := kd_str (T.kd.symm.trans hkd)
            have hund : P.underlying ty = some .string := by rw [T.und, hd]
            rw [h1] at hx
            have hu : a.eval x = .string ⟨l.toArray⟩ := (Option.some.inj hx).symm
            intro hpre
            have hpre' : 0 ≤ p ∧ p ≤ q ∧ q ≤ (l.length : Int) := hpre
            refine ⟨_, rfl, fun W _ => ?_⟩
            have hsz : (⟨l.toArray⟩ : ByteArray).size = l.length := rfl
            have hb : (Instr.sliceBounds false (⟨l.toArray⟩ : ByteArray).size (⟨l.toArray⟩ : ByteArray).size (lo.map a.eval) (hi.map a.eval) none).run P W = .ok (p.toNat, q.toNat, l.length) W := by
              rw [hsz]
              unfold Instr.sliceBounds
              have hhi : (hi = none ∧ q = (l.length : Int)) ∨ ∃ y k, hi = some y ∧ a.eval y = .int k q := bnd_ok he hq
              have hlo : (lo = none ∧ p = 0) ∨ ∃ y k, lo = some y ∧ a.eval y = .int k p := bnd_ok he hp
              have hql : q.toNat ≤ l.length := by omega
              rcases hhi with ⟨rfl, rfl⟩ | ⟨y, k, rfl, hy⟩
              · rcases hlo with ⟨rfl, rfl⟩ | ⟨z, k2, rfl, hz⟩
                · simp
                · simp only [Option.map_none, Option.map_some, Sem.run_bind, Sem.run_pure, Result.andThen_ok, hz]
                  rw [bnd_run hpre'.1 hpre'.2.1 W]
                  simp
              · rcases hlo with ⟨rfl, rfl⟩ | ⟨z, k2, rfl, hz⟩
                · simp only [Option.map_none, Option.map_some, Sem.run_bind, Sem.run_pure, Result.andThen_ok, hy]
                  rw [bnd_run (by omega) hpre'.2.2 W]
                  simp
                · simp only [Option.map_none, Option.map_some, Sem.run_bind, Sem.run_pure, Result.andThen_ok, hy, hz]
                  rw [bnd_run (by omega) hpre'.2.2 W]
                  simp only [Result.andThen_ok]
                  rw [bnd_run hpre'.1 (by omega) W]
                  simp
            rw [hu]
            have hsl : (Instr.sliceAt ty (.string ⟨l.toArray⟩) (lo.map a.eval) (hi.map a.eval) none).run P W = .ok (.string ((⟨l.toArray⟩ : ByteArray).extract p.toNat q.toNat)) W := by
              simp only [Instr.sliceAt, Sem.run_bind, run_underlying hund, Result.andThen_ok, Instr.slice, Option.isSome_none, Bool.false_eq_true, if_false, Sem.run_pure, hb]
            rw [extract_str] at hsl
            exact hsl
          · trivial
        · trivial
      · trivial
    · rename_i k off h1 h2
      have hmx : mx = none := by cases mx with
        | none => rfl
        | some m => simp at h2
      subst hmx
      split
      · rename_i ti hlo hhi hti
        have hlo' : lo = none := by cases lo with
          | none => rfl
          | some m => simp at hlo
        have hhi' : hi = none := by cases hi with
          | none => rfl
          | some m => simp at hhi
        subst hlo' hhi'
        split
        · rename_i m e hkd
          split
          · rename_i ei hei
            split
            · trivial
            · rename_i hm
              have hm0 : ¬ m = 0 := fun e => hm (by rw [e]; rfl)
              obtain ⟨i0, d0, z0, T⟩ := TI.spec (hE.T ty ti hti)
              obtain ⟨i2, d2, z2, T2⟩ := TI.spec (hE.T e ei hei)
              have hund : P.underlying ty = some (.array m e) := by rw [T.und, kd_array (T.kd.symm.trans hkd)]
              rw [h1] at hx
              obtain ⟨p, hp, hu⟩ := den_ptr hx
              refine ⟨.slice (some ⟨p.b, off, none⟩) m m, by simp [SV.is, CV.den, hp], fun W _ => ?_⟩
              rw [hu]
              simp only [Instr.sliceAt, Instr.sliceBounds, Instr.sureAddr, Option.map_none, Sem.run_bind, run_underlying hund, Result.andThen_ok, Sem.run_pure, run_sizeOf' T2.info, Nat.sub_zero, Nat.zero_mul]
              rw [if_neg hm0]
              rw [Addr.add_mid]
              simp
          · trivial
        · trivial
      · trivial
    · rename_i k h1 h2
      have hmx : mx = none := by cases mx with
        | none => rfl
        | some m => simp at h2
      subst hmx
      split
      · rename_i ti sz m hti hk0
        obtain ⟨en, hk, hen⟩ := Option.bind_eq_some_iff.1 hk0
        split
        · rename_i e hkd
          split
          · rename_i ei p q hei hp hq
            split
            · rename_i hsz
              obtain ⟨i0, d0, z0, T⟩ := TI.spec (hE.T ty ti hti)
              obtain ⟨i1, d1, z1, T1⟩ := TI.spec (hE.T e ei hei)
              have hund : P.underlying ty = some (.slice e) := by rw [T.und, kd_slice (T.kd.symm.trans hkd)]
              have hs1 : i1.size = sz := by rw [T1.size]; simpa using hsz
              rw [h1] at hx
              obtain ⟨pl, hpl, hu⟩ := den_row hx
              obtain ⟨W0, hW0⟩ := hS0
              obtain ⟨aa, cap, hpv, hcap, haa⟩ := Ent.shape_ok hen (hS W0 hW0 k _ pl hk hpl)
              intro hpre
              have hpre' : 0 ≤ p ∧ p ≤ q ∧ q ≤ (m : Int) := hpre
              refine ⟨.slice (if cap = p.toNat then aa else aa.map (·.add (p.toNat * sz))) (q - p).toNat (cap - p.toNat), ?_, fun W _ => ?_⟩
              · show CV.den _ _ = _
                simp only [CV.den, hpl, subV, hpv]
                exact if_pos (show p.toNat + (q - p).toNat ≤ m by omega)
              · rw [hu, hpv]
                have hb : (Instr.sliceBounds true m cap (lo.map a.eval) (hi.map a.eval) none).run P W = .ok (p.toNat, q.toNat, cap) W := sliceBounds_run he hp hq hpre' hcap W
                simp only [Instr.sliceAt, Sem.run_bind, run_underlying hund, Result.andThen_ok, Instr.slice, Option.map_none, hb, run_sizeOf' T1.info, Sem.run_pure, hs1]
                rw [show q.toNat - p.toNat = (q - p).toNat by omega]
            · trivial
          · trivial
        · trivial
      · trivial
    · rename_i k l0 n0 sz h1 h2
      have hmx : mx = none := by cases mx with
        | none => rfl
        | some m => simp at h2
      subst hmx
      split
      · rename_i ti sz1 _ hti hk0
        obtain ⟨en, hk, hen⟩ := Option.bind_eq_some_iff.1 hk0
        split
        · rename_i e hkd
          split
          · rename_i ei p q hei hp hq
            split
            · rename_i hsz
              simp only [Bool.and_eq_true, Nat.beq_eq] at hsz
              obtain ⟨rfl, hsz⟩ := hsz
              obtain ⟨i0, d0, z0, T⟩ := TI.spec (hE.T ty ti hti)
              obtain ⟨i1, d1, z1, T1⟩ := TI.spec (hE.T e ei hei)
              have hund : P.underlying ty = some (.slice e) := by rw [T.und, kd_slice (T.kd.symm.trans hkd)]
              have hs1 : i1.size = sz := by rw [T1.size]; exact hsz
              rw [h1] at hx
              obtain ⟨pl, aa, mm, cap, hpl, hpv, hmm, hu⟩ := den_vsl hx
              obtain ⟨W0, hW0⟩ := hS0
              obtain ⟨_, hcap, haa⟩ := shape_part hen (hS W0 hW0 k _ pl hk hpl) hpv hmm
              intro hpre
              have hpre' : 0 ≤ p ∧ p ≤ q ∧ q ≤ (n0 : Int) := hpre.1
              have hcut : p = 0 ∨ p < (n0 : Int) := hpre.2
              refine ⟨.slice (if cap = l0 + p.toNat then aa else aa.map (·.add ((l0 + p.toNat) * sz))) (q - p).toNat (cap - (l0 + p.toNat)), ?_, fun W _ => ?_⟩
              · show CV.den _ _ = _
                simp only [CV.den, hpl, subV, hpv]
                exact if_pos (show l0 + p.toNat + (q - p).toNat ≤ mm by omega)
              · rw [hu]
                have hb : (Instr.sliceBounds true n0 (cap - l0) (lo.map a.eval) (hi.map a.eval) none).run P W = .ok (p.toNat, q.toNat, cap - l0) W := sliceBounds_run he hp hq hpre' (by omega) W
                simp only [Instr.sliceAt, Sem.run_bind, run_underlying hund, Result.andThen_ok, Instr.slice, Option.map_none, hb, run_sizeOf' T1.info, Sem.run_pure, hs1]
                rw [show q.toNat - p.toNat = (q - p).toNat by omega, show cap - l0 - p.toNat = cap - (l0 + p.toNat) by omega]
                congr 2
                rcases hcut with rfl | hcut
                · simp only [Int.toNat_zero, Nat.zero_mul, Nat.add_zero]
                  split
                  · rfl
                  · rename_i hc
                    cases aa with
                    | none => split <;> rfl
                    | some ad =>
                      split
                      · simp [Addr.add]
                      · simp [Addr.add]
                · have h0 := haa (by omega)
                  have hne : ¬ cap = l0 := by omega
                  rw [if_neg hne] at h0 ⊢
                  rw [if_neg (by omega), if_neg (by omega), h0]
                  cases aa with
                  | none => simp at h0
                  | some ad =>
                    simp only [Option.map_some, Option.some.injEq] at h0 ⊢
                    rw [addr_add, Nat.add_mul]
                    rw [addr_add2, h0, addr_add]
            · trivial
          · trivial
        · trivial
      · trivial
    · trivial
  case build ty parts =>
    refine PR.lift ?_
    unfold bld
    split
    · rename_i ti hti
      split
      · rename_i r hr
        split
        · rename_i cs hcs
          obtain ⟨i0, d0, z0, T⟩ := TI.spec (hE.T ty ti hti)
          obtain ⟨fs, hd, hf⟩ := kd_struct (T.kd.symm.trans hr)
          have hz : IsL ρ ti.zero z0.cells.toList := by rw [T.zs]; exact isL_ofV T.ones
          have hP : ∀ ps : List (Nat × Operand), IsP ρ (ps.map fun p => (p.1, ev t p.2)) (ps.map fun p => (p.1, a.eval p.2)) := by
            intro ps
            induction ps with
            | nil => exact rfl
            | cons p ps ih => exact ⟨_, _, rfl, he p.2, ih⟩
          obtain ⟨vs', hv1, hv2⟩ := fill_ok (hP parts.toList) hz hcs
          refine ⟨.agg vs'.toArray, ⟨vs', hv1, rfl⟩, fun W _ => ?_⟩
          refine run_build W ty _ _ ?_
          unfold Program.built
          simp only [T.info, T.und, hd, T.zero, fieldsOf_places hf]
          have e1 : (fun (x : Nat) => (List.map (fun q : Nat × Nat × Bool => (q.1, q.2.1)) r).toArray[x]?) = fun (j : Nat) => (r[j]?).map fun (q : Nat × Nat × Bool) => (q.1, q.2.1) := by
            funext j; simp
          rw [e1]
          have e2 : (parts.map fun (i, x) => (i, a.eval x)).toList = parts.toList.map fun p => (p.1, a.eval p.2) := by simp
          rw [e2]
          have e3 : z0.cells = z0.cells.toList.toArray := by simp
          rw [e3]
          exact hv2
        · trivial
      · rename_i m e hr
        split
        · rename_i ei hei
          split
          · rename_i cs hcs
            obtain ⟨i0, d0, z0, T⟩ := TI.spec (hE.T ty ti hti)
            obtain ⟨i1, d1, z1, T1⟩ := TI.spec (hE.T e ei hei)
            have hd := kd_array (T.kd.symm.trans hr)
            have hz : IsL ρ ti.zero z0.cells.toList := by rw [T.zs]; exact isL_ofV T.ones
            have hP : ∀ ps : List (Nat × Operand), IsP ρ (ps.map fun p => (p.1, ev t p.2)) (ps.map fun p => (p.1, a.eval p.2)) := by
              intro ps
              induction ps with
              | nil => exact rfl
              | cons p ps ih => exact ⟨_, _, rfl, he p.2, ih⟩
            obtain ⟨vs', hv1, hv2⟩ := fill_ok (hP parts.toList) hz hcs
            refine ⟨.agg vs'.toArray, ⟨vs', hv1, rfl⟩, fun W _ => ?_⟩
            refine run_build W ty _ _ ?_
            unfold Program.built
            simp only [T.info, T.und, hd, T.zero, T1.info, T1.size]
            have e2 : (parts.map fun (i, x) => (i, a.eval x)).toList = parts.toList.map fun p => (p.1, a.eval p.2) := by simp
            rw [e2]
            have e3 : z0.cells = z0.cells.toList.toArray := by simp
            rw [e3]
            exact hv2
          · trivial
        · trivial
      · trivial
    · trivial
  case call c =>
    obtain ⟨callee, args, ats⟩ := c
    split
    · rename_i hc
      simp only at hc
      subst hc
      simp only
      split
      · rename_i t0 ts x0 xs hats hargs
        have hx := he x0
        have ha1 : args[0]? = some x0 := by rw [← Array.getElem?_toList, hargs]; rfl
        have ha2 : ats[0]? = some t0 := by rw [← Array.getElem?_toList, hats]; rfl
        have hlen : ∀ (W : World) (u : Value) (v : Value), a.eval x0 = u → (∀ D, P.underlying t0 = some D → (match D, u with
            | .string, .string s => some (goInt s.size)
            | .slice _, .slice _ n _ => some (goInt n)
            | _, _ => none) = some v) → (∃ D, P.underlying t0 = some D) → (execOp a.eval { dst, op := .call { callee := .builtin .len, args, argTypes := ats }, type, pos, after, guard }).run P W = .ok (.value v) W := fun W u v hu hD hund => by
          obtain ⟨D, hund⟩ := hund
          have h1 := hD D hund
          rw [BigFrame.execOp_builtin, BigFrame.builtin_len]
          simp only [Builtin.len_, Array.getElem?_map, ha1, ha2, Option.map_some, hu, Sem.run_bind]
          rw [run_underlying hund]
          split at h1
          · cases h1; rfl
          · cases h1; rfl
          · cases h1
        unfold lenR
        split
        · rename_i k h1
          split
          · rename_i ti e l hti hk
            split
            · rename_i e2 hkd
              obtain ⟨i0, d0, z0, T⟩ := TI.spec (hE.T _ ti hti)
              have hd := kd_slice (T.kd.symm.trans hkd)
              rw [h1] at hx
              obtain ⟨p, hp, hu⟩ := den_row hx
              obtain ⟨W0, hW0⟩ := hS0
              have hok := hS W0 hW0 k _ p hk hp
              have hpv : ∃ aa cap, p.v = .slice aa l.length cap := by
                obtain ⟨a, c, h, _⟩ := hok.1.val
                exact ⟨a, c, h⟩
              obtain ⟨aa, cap, hpv⟩ := hpv
              refine ⟨_, rfl, fun W _ => hlen W _ _ (hu.trans hpv) (fun D hD => ?_) ⟨_, T.und⟩⟩
              rw [T.und, hd] at hD
              cases hD
              rfl
            · trivial
          · rename_i ti en _ hti hk
            split
            · rename_i sz n hen
              split
              · rename_i e hkd
                obtain ⟨i0, d0, z0, T⟩ := TI.spec (hE.T _ ti hti)
                have hd := kd_slice (T.kd.symm.trans hkd)
                rw [h1] at hx
                obtain ⟨p, hp, hu⟩ := den_row hx
                obtain ⟨W0, hW0⟩ := hS0
                obtain ⟨aa, cap, hpv, _, _⟩ := Ent.shape_ok hen (hS W0 hW0 k _ p hk hp)
                refine ⟨_, rfl, fun W _ => hlen W _ _ (hu.trans hpv) (fun D hD => ?_) ⟨_, T.und⟩⟩
                rw [T.und, hd] at hD
                cases hD
                rfl
              · trivial
            · split
              · rename_i x1 x2 ml x4 x5 _ _ _
                obtain ⟨i0, d0, z0, T⟩ := TI.spec (hE.T _ ti hti)
                have hd := kd_map (T.kd.symm.trans (by assumption))
                rw [h1] at hx
                obtain ⟨p, hp, hu⟩ := den_row hx
                refine ⟨_, rfl, fun W hW => ?_⟩
                obtain ⟨h2, es, ck, h3, h4, h5⟩ := hS W hW k _ p hk hp
                have hl : es.size = ml.length := by
                  have := congrArg List.length h4
                  simpa using this
                rw [BigFrame.execOp_builtin, BigFrame.builtin_len]
                simp only [Builtin.len_, Array.getElem?_map, ha1, ha2, Option.map_some, hu, h2, Sem.run_bind]
                rw [run_underlying T.und, hd]
                simp only [Result.andThen_ok, Sem.run_bind, MapKept.run_getObj_map h3, Sem.run_pure, hl]
                rfl
              · trivial
          · trivial
        · rename_i k off len cap h1
          split
          · rename_i ti hti
            split
            · rename_i e hkd
              obtain ⟨i0, d0, z0, T⟩ := TI.spec (hE.T _ ti hti)
              have hd := kd_slice (T.kd.symm.trans hkd)
              rw [h1] at hx
              obtain ⟨p, hp, hu⟩ := den_sl hx
              refine ⟨_, rfl, fun W _ => hlen W _ _ hu (fun D hD => ?_) ⟨_, T.und⟩⟩
              rw [T.und, hd] at hD
              cases hD
              rfl
            · trivial
          · trivial
        · rename_i k lo n sz h1
          split
          · rename_i ti hti
            split
            · rename_i e hkd
              obtain ⟨i0, d0, z0, T⟩ := TI.spec (hE.T _ ti hti)
              have hd := kd_slice (T.kd.symm.trans hkd)
              rw [h1] at hx
              obtain ⟨p, aa, m, cap, hp, hpv, hm, hu⟩ := den_vsl hx
              refine ⟨_, rfl, fun W _ => hlen W _ _ hu (fun D hD => ?_) ⟨_, T.und⟩⟩
              rw [T.und, hd] at hD
              cases hD
              rfl
            · trivial
          · trivial
        · rename_i l h1
          split
          · rename_i ti hti
            split
            · rename_i hkd
              obtain ⟨i0, d0, z0, T⟩ := TI.spec (hE.T _ ti hti)
              have hd := kd_str (T.kd.symm.trans hkd)
              rw [h1] at hx
              have hu : a.eval x0 = .string ⟨l.toArray⟩ := (Option.some.inj hx).symm
              refine ⟨_, rfl, fun W _ => hlen W _ _ hu (fun D hD => ?_) ⟨_, T.und⟩⟩
              rw [T.und, hd] at hD
              cases hD
              rfl
            · trivial
          · trivial
        · trivial
      · trivial
    · rename_i hc
      simp only at hc
      subst hc
      simp only
      split
      · rename_i x0 y0
        have hx := he x0
        have hy := he y0
        unfold mmx
        split
        · rename_i k n k2 n2 h1 h2
          rw [h1] at hx
          rw [h2] at hy
          have hxu : a.eval x0 = .int k n := (Option.some.inj hx).symm
          have hyu : a.eval y0 = .int k2 n2 := (Option.some.inj hy).symm
          refine ⟨_, rfl, fun W _ => ?_⟩
          rw [BigFrame.execOp_builtin, BigFrame.builtin_max]
          simp only [Builtin.max_, List.map_toArray, List.map_cons, List.map_nil, hxu, hyu, Sem.run_bind, List.foldlM_cons, List.foldlM_nil, Builtin.max2, Arith.std]
          have e : (if n2 > n then n2 else n) = max n n2 := by rw [Int.max_def]; split <;> split <;> omega
          first | rfl | (rw [← e]; rfl)
        · trivial
      · trivial
    · rename_i hc
      simp only at hc
      subst hc
      simp only
      split
      · rename_i x0 y0
        have hx := he x0
        have hy := he y0
        unfold mmx
        split
        · rename_i k n k2 n2 h1 h2
          rw [h1] at hx
          rw [h2] at hy
          have hxu : a.eval x0 = .int k n := (Option.some.inj hx).symm
          have hyu : a.eval y0 = .int k2 n2 := (Option.some.inj hy).symm
          refine ⟨_, rfl, fun W _ => ?_⟩
          rw [BigFrame.execOp_builtin, BigFrame.builtin_min]
          simp only [Builtin.min_, List.map_toArray, List.map_cons, List.map_nil, hxu, hyu, Sem.run_bind, List.foldlM_cons, List.foldlM_nil, Builtin.min2, Arith.std]
          have e : (if n2 < n then n2 else n) = min n n2 := by rw [Int.min_def]; split <;> split <;> omega
          first | rfl | (rw [← e]; rfl)
        · trivial
      · trivial
    · trivial
end Go.Proofs.Ytcgoaicifjndpaa.Vx
