/- The walker is sound: memory, calls, single operations. -/
import Derived.Test.YtcgoaicifjndpaaVxExec
import Derived.Lib.AppendStr
import Derived.Lib.ConvBytes
namespace Go.Proofs.Ytcgoaicifjndpaa.Vx
open Go.RowKit
set_option linter.unusedVariables false
set_option linter.unusedSimpArgs false

def Fps (ρ : List Pl) (h : List Ent) : List Nat := (List.range h.length).filterMap (fp ρ h)

theorem mem_Fps {ρ : List Pl} {h : List Ent} {b : Nat} : b ∈ Fps ρ h ↔ ∃ k, fp ρ h k = some b := by
  unfold Fps
  simp only [List.mem_filterMap, List.mem_range]
  constructor
  · rintro ⟨k, _, hk⟩; exact ⟨k, hk⟩
  · rintro ⟨k, hk⟩
    obtain ⟨e, p, he, _, _⟩ := fp_some hk
    exact ⟨k, (List.getElem?_eq_some_iff.1 he).1, hk⟩

/-- One known block is written. -/
theorem Rel.write {w0 : World} {G : Gs} {ρ : List Pl} {h : List Ent} {W W' : World} (r : Rel w0 G ρ h W) {k : Nat} {p : Pl} {ty : TypeId} {cs cs' : List CV} {vs' : List Value}
    (hk : h[k]? = some (.cells ty cs)) (hp : ρ[k]? = some p) (hv : IsL ρ cs' vs') (hb : W'.heap[p.b]? = some (.cells vs'.toArray ty (0, 0)))
    (hother : ∀ b, b ≠ p.b → W'.heap[b]? = W.heap[b]?) (hsize : W'.heap.size = W.heap.size) (hos : W'.os = W.os) (htape : W'.tape = W.tape) (hout : W'.output = W.output) :
    Rel w0 G ρ (h.set k (.cells ty cs')) W' := by
  have hlt : k < h.length := (List.getElem?_eq_some_iff.1 hk).1
  have hget : ∀ j e, (h.set k (.cells ty cs'))[j]? = some e → (j = k ∧ e = .cells ty cs') ∨ (j ≠ k ∧ h[j]? = some e) := fun j e he => by
    by_cases hj : j = k
    · subst hj
      rw [List.getElem?_set_self hlt] at he
      exact Or.inl ⟨rfl, (Option.some.inj he).symm⟩
    · rw [List.getElem?_set_ne (fun e => hj e.symm)] at he
      exact Or.inr ⟨hj, he⟩
  have hfp : ∀ j b, fp ρ (h.set k (.cells ty cs')) j = some b → fp ρ h j = some b := fun j b hf => by
    obtain ⟨e, q, he, hq, hx⟩ := fp_some hf
    rcases hget j e he with ⟨rfl, rfl⟩ | ⟨hj, he'⟩
    · rw [fp_mk hk hq]; exact hx
    · rw [fp_mk he' hq]; exact hx
  refine ⟨by rw [r.len, List.length_set], fun j e q he hq => ?_, fun j b hf => ?_, fun i j b hi hj => r.dis i j b (hfp i b hi) (hfp j b hj), fun i hi hG => ?_, fun j e q he hq => ?_, hos.trans r.os, htape.trans r.tape, hout.trans r.output, by rw [hsize]; exact r.size⟩
  · rcases hget j e he with ⟨rfl, rfl⟩ | ⟨hj, he'⟩
    · rw [hp] at hq
      cases hq
      exact ⟨vs', hv, hb⟩
    · refine Ent.ok_of_block (r.ok j e q he' hq) fun b hb' => hother b fun e1 => hj ?_
      have hkb : fp ρ h k = some b := by rw [fp_mk hk hp, e1]; rfl
      rcases dep_fp hb' with h1 | h1
      · exact r.dis j k b (by rw [fp_mk he' hq]; exact h1) hkb
      · exact absurd hkb ((r.ro he' hq h1 hb').2.1 k)
  · rw [hsize]; exact r.own j b (hfp j b hf)
  · rw [hother i fun e1 => ?_]
    · exact r.kept i hi hG
    · rcases (r.own k i (by rw [fp_mk hk hp, e1]; rfl)).2 with h1 | h1
      · exact hG h1
      · omega
  · rcases hget j e he with ⟨rfl, rfl⟩ | ⟨hj, he'⟩
    · trivial
    · exact Ent.dat_mono (r.dat j e q he' hq) (r.datStep (Nat.le_of_eq hsize.symm) (fun i b hf => Or.inl ⟨i, hfp i b hf⟩) fun b _ hn _ => hother b fun e1 => hn k (by rw [fp_mk hk hp, e1]; rfl)) fun b hb => hother b fun e1 => hj (r.dis j k b (by rw [fp_mk he' hq]; exact hb) (by rw [fp_mk hk hp, e1]; rfl))

structure CtOk (P : Program) (f : FuncId) (app : App) : Prop where
  fn : ∃ fn, P.funcs[f]? = some fn ∧ fn.body.isNone = false ∧ (fn.name == "runtime.NumGoroutine") = false
  le : ∀ args h r, app args h = some r → h.length ≤ r.h.length ∧ (∀ k, k < h.length → k ∉ r.ms → r.h[k]? = h[k]?)
  run : ∀ args h r, app args h = some r → r.pre → ∀ w0 G ρ W us, Rel w0 G ρ h W → IsS ρ args us →
    Calls P f us.toArray W fun e W' => ∃ u ρ', e = .returned u ∧ r.res.is (ρ ++ ρ') u ∧ Rel w0 G (ρ ++ ρ') r.h W'

def CtsOk (P : Program) (C : List (Nat × App)) : Prop := ∀ f app, lookC C f = some app → CtOk P f app
theorem CtsOk.nil (P : Program) : CtsOk P [] := fun t i h => by cases h
theorem CtsOk.cons {P : Program} {f : Nat} {app : App} {C : List (Nat × App)} (h : CtOk P f app) (k : CtsOk P C) : CtsOk P ((f, app) :: C) := fun u j hu => by
  unfold lookC at hu
  by_cases e : f = u
  · subst e; simp at hu; rw [← hu]; exact h
  · simp [e] at hu; exact k u j hu

theorem put_is {ρ : List Pl} {t : List SV} {a : Act} {d : Option Tmp} {v : SV} {u : Value} (hs : IsS ρ t a.tmps.toList) (hv : v.is ρ u) : IsS ρ (Vx.put t d v) (a.put d u).tmps.toList := by
  cases d with
  | none => exact hs
  | some d =>
    simp only [Act.put, Vx.put, Array.toList_setIfInBounds]
    exact IsS.set hs d hv

theorem put_defers {a : Act} {d : Option Tmp} {u : Value} : (a.put d u).defers = a.defers := by cases d <;> rfl

/-- What lies behind an operation. -/
def Next (w0 : World) (G : Gs) (ρ : List Pl) (hS : List Ent) (K : St → Prop) (next : Act → World → Prop) : Prop :=
  ∀ ρ' st' a' W', Rel w0 G (ρ ++ ρ') st'.h W' → IsS (ρ ++ ρ') st'.t a'.tmps.toList → a'.defers = [] → Le hS st'.h → hS.length ≤ st'.h.length → K st' → next a' W'

theorem Le.append {hS h : List Ent} (l : Le hS h) (x : List Ent) : Le hS (h ++ x) := fun k e he => by
  rcases l k e he with h1 | h1
  · exact Or.inl h1
  · right
    rw [List.getElem?_append_left (List.getElem?_eq_some_iff.1 h1).1]; exact h1

theorem maskedAt_spec {hS : List Ent} {k : Nat} (h : maskedAt hS k = true) {e : Ent} (he : hS[k]? = some e) : e = .dead := by
  unfold maskedAt at h
  rw [he] at h
  cases e <;> first | rfl | cases h

theorem pevK_ok {P : Program} {N : Env} (hA : N.A = .std) (hE : N.E.Ok P) {w0 : World} {G : Gs} {ρ : List Pl} {st : St} {a : Act} {W : World} {o : Oper} {hS : List Ent} {Q : Exit → Act → World → Prop} {K : St → Prop} {next : Act → World → Prop}
    (r : Rel w0 G ρ st.h W) (hs : IsS ρ st.t a.tmps.toList) (hd : a.defers = []) (hl : Le hS st.h) (hl2 : hS.length ≤ st.h.length) (hn : Next w0 G ρ hS K next)
    (hK : pevK (pev N.A N.E st.h (ev st.t) o.op) st.t o.dst fun t => K ⟨t, st.h⟩) : o.wp P a W next Q := by
  have hp := pev_ok (P := P) hE hs (S := fun W' => W' = W) (fun W' hW' => by subst hW'; exact r.ok) (fun W' hW' k e p he hp => by subst hW'; exact ⟨_, r.dat k e p he hp⟩) ⟨W, rfl⟩ (by rw [r.len]; exact Nat.le_refl _) o
  rw [hA] at hK
  have go : ∀ {v : SV} {u : Value}, v.is ρ u → (execOp a.eval o).run P W = .ok (.value u) W → K ⟨Vx.put st.t o.dst v, st.h⟩ → o.wp P a W next Q := fun {v u} hv hr hk => by
    unfold Oper.wp
    rw [hr, Oper.upon_value]
    refine hn [] ⟨Vx.put st.t o.dst v, st.h⟩ _ W (by rw [List.append_nil]; exact r) (by rw [List.append_nil]; exact put_is hs hv) (by rw [put_defers]; exact hd) hl hl2 hk
  cases hpv : pev .std N.E st.h (ev st.t) o.op with
  | ok v =>
    rw [hpv] at hp hK
    obtain ⟨u, h1, h2⟩ := hp
    exact go h1 (h2 W rfl) hK
  | okp pre v =>
    rw [hpv] at hp hK
    obtain ⟨u, h1, h2⟩ := hp hK.1
    exact go h1 (h2 W rfl) (hK.2 hK.1)
  | split b x y =>
    rw [hpv] at hp hK
    obtain ⟨u, h1, h2⟩ := hp
    cases b with
    | true => exact go (v := x) h1 (h2 W rfl) (hK.1 rfl)
    | false => exact go (v := y) h1 (h2 W rfl) (hK.2 rfl)
  | okps pre b x y =>
    rw [hpv] at hp hK
    obtain ⟨u, h1, h2⟩ := hp hK.1
    have hK := hK.2 hK.1
    cases b with
    | true => exact go (v := x) h1 (h2 W rfl) (hK.1 rfl)
    | false => exact go (v := y) h1 (h2 W rfl) (hK.2 rfl)
  | fork c x y =>
    rw [hpv] at hp hK
    obtain ⟨b, hc, u, h1, h2⟩ := hp
    cases b with
    | true => exact go (v := x) h1 (h2 W rfl) (hK.1 (hc rfl))
    | false => exact go (v := y) h1 (h2 W rfl) hK.2
  | no => rw [hpv] at hK; exact hK.elim

theorem cells_agg {u : Value} {us : List Value} (h : u.cells = us.toArray) (W : World) (P : Program) (t : TypeId) (p : Addr) : (storeVar t p u).run P W = (storeVar t p (.agg us.toArray)).run P W := by
  unfold storeVar
  rw [h]
  rfl

theorem heap_setCells (b : Nat) {fz : Nat × Nat} : ∀ (xs : List Value) (o : Nat) (W : World) (vs : List Value) (ty : TypeId), W.heap[b]? = some (.cells vs.toArray ty fz) →
    (W.setCells b o xs).heap[b]? = some (.cells (xs.zipIdx.foldl (fun cs (c, j) => cs.setIfInBounds (o + j) c) vs.toArray) ty fz) ∧
    (∀ g, g ≠ b → (W.setCells b o xs).heap[g]? = W.heap[g]?) ∧ (W.setCells b o xs).heap.size = W.heap.size ∧ (W.setCells b o xs).os = W.os ∧ (W.setCells b o xs).tape = W.tape ∧ (W.setCells b o xs).output = W.output
  | [], o, W, vs, ty, h => ⟨h, fun _ _ => rfl, rfl, rfl, rfl, rfl⟩
  | x :: xs, o, W, vs, ty, h => by
    have h1 : (W.setCell ⟨b, o, none⟩ x).heap[b]? = some (.cells (vs.set o x).toArray ty fz) := by
      simp [World.setCell, Array.getElem?_modify, h]
    obtain ⟨g1, g2, g3, g4, g5, g6⟩ := heap_setCells b xs (o + 1) (W.setCell ⟨b, o, none⟩ x) (vs.set o x) ty h1
    refine ⟨?_, fun g hg => (g2 g hg).trans (Below.heap_setCell W ⟨b, o, none⟩ x g hg), by rw [World.setCells, g3]; simp [World.setCell], g4, g5, g6⟩
    rw [World.setCells, g1]
    congr 2
    simp only [List.zipIdx_cons, List.foldl_cons, Nat.add_zero, List.setIfInBounds_toArray]
    conv => rhs; rw [List.zipIdx_eq_map_add, List.foldl_map]
    congr 1
    funext x y
    obtain ⟨y1, y2⟩ := y
    show x.setIfInBounds (o + 1 + y2) y1 = x.setIfInBounds (o + (0 + 1 + y2)) y1
    rw [show o + (0 + 1 + y2) = o + 1 + y2 by omega]

/-! ### A row in which cells are set -/
def setV : List Value → Nat → List Value → List Value
  | vs, _, [] => vs
  | vs, o, u :: us => setV (vs.set o u) (o + 1) us
theorem setV_len : ∀ (us : List Value) (vs : List Value) (o : Nat), (setV vs o us).length = vs.length
  | [], vs, o => rfl
  | u :: us, vs, o => by rw [setV, setV_len us]; simp
theorem setV_get : ∀ (us : List Value) (vs : List Value) (o k : Nat), (setV vs o us)[k]? = if o ≤ k ∧ k < o + us.length ∧ k < vs.length then us[k - o]? else vs[k]?
  | [], vs, o, k => by
    rw [if_neg (by simp; omega)]
    rfl
  | u :: us, vs, o, k => by
    rw [setV, setV_get us]
    simp only [List.length_set, List.length_cons]
    by_cases h1 : o + 1 ≤ k ∧ k < o + 1 + us.length ∧ k < vs.length
    · rw [if_pos h1, if_pos (by omega)]
      have e : k - o = (k - (o + 1)) + 1 := by omega
      rw [e, List.getElem?_cons_succ]
    · rw [if_neg h1]
      by_cases h2 : k = o
      · subst h2
        by_cases h3 : k < vs.length
        · rw [if_pos (by omega)]
          simp [h3]
        · rw [if_neg (by omega)]
          simp [h3]
      · rw [if_neg (by omega), List.getElem?_set_ne (by omega)]
theorem setV_fold : ∀ (us : List Value) (vs : List Value) (o : Nat), us.zipIdx.foldl (fun cs (c, j) => cs.setIfInBounds (o + j) c) vs.toArray = (setV vs o us).toArray
  | [], vs, o => rfl
  | u :: us, vs, o => by
    rw [setV, ← setV_fold us]
    simp only [List.zipIdx_cons, List.foldl_cons, Nat.add_zero, List.setIfInBounds_toArray]
    conv => lhs; rw [List.zipIdx_eq_map_add, List.foldl_map]
    congr 1
    funext x y
    obtain ⟨y1, y2⟩ := y
    show x.setIfInBounds (o + (0 + 1 + y2)) y1 = x.setIfInBounds (o + 1 + y2) y1
    rw [show o + (0 + 1 + y2) = o + 1 + y2 by omega]
theorem isL_setV {ρ : List Pl} {xs cs : List CV} {us vs : List Value} (o : Nat) (hx : IsL ρ xs us) (hc : IsL ρ cs vs) : IsL ρ (setMany cs o xs) (setV vs o us) := by
  have := isL_setMany o hx hc
  rw [setV_fold] at this
  exact this
theorem take_setV {us cur : List Value} {o n : Nat} (h : o + us.length ≤ n) : (setV cur o us).take n = setV (cur.take n) o us := by
  apply List.ext_getElem?
  intro k
  rw [List.getElem?_take, setV_get, setV_get, List.getElem?_take, List.length_take]
  by_cases hk : k < n
  · simp only [if_pos hk]
    by_cases h1 : o ≤ k ∧ k < o + us.length ∧ k < cur.length
    · rw [if_pos h1, if_pos (by omega)]
    · rw [if_neg h1, if_neg (by omega)]
  · simp only [if_neg hk]
    rw [if_neg (by omega)]
theorem chunk_setV {us vs : List Value} {i j sz off : Nat} (h : off + us.length ≤ sz) (hv : i * sz + sz ≤ vs.length) : ((setV vs (i * sz + off) us).drop (j * sz)).take sz = if j = i then setV ((vs.drop (i * sz)).take sz) off us else (vs.drop (j * sz)).take sz := by
  apply List.ext_getElem?
  intro k
  by_cases hji : j = i
  · subst hji
    rw [if_pos rfl, setV_get, List.getElem?_take, List.getElem?_drop, setV_get, List.getElem?_take, List.getElem?_drop, List.length_take, List.length_drop]
    by_cases hk : k < sz
    · simp only [if_pos hk]
      by_cases h1 : off ≤ k ∧ k < off + us.length
      · rw [if_pos (by omega), if_pos (by omega)]
        congr 1
        omega
      · rw [if_neg (by omega), if_neg (by omega)]
    · simp only [if_neg hk]
      rw [if_neg (by omega)]
  · rw [if_neg hji, List.getElem?_take, List.getElem?_drop, setV_get, List.getElem?_take, List.getElem?_drop]
    by_cases hk : k < sz
    · simp only [if_pos hk]
      have : ¬ (i * sz + off ≤ j * sz + k ∧ j * sz + k < i * sz + off + us.length ∧ j * sz + k < vs.length) := by
        rcases Nat.lt_or_ge j i with hlt | hge
        · have h2 := Nat.mul_le_mul_right sz (show j + 1 ≤ i from hlt)
          rw [Nat.add_mul, Nat.one_mul] at h2
          omega
        · have h2 := Nat.mul_le_mul_right sz (show i + 1 ≤ j by omega)
          rw [Nat.add_mul, Nat.one_mul] at h2
          omega
      rw [if_neg this]
    · simp only [if_neg hk]

/-- One known block is written; the entry that lies there is said anew. -/
theorem Rel.turn {w0 : World} {G : Gs} {ρ : List Pl} {h : List Ent} {W W' : World} (r : Rel w0 G ρ h W) {k b0 : Nat} {p : Pl} {e0 en : Ent}
    (hk : h[k]? = some e0) (hp : ρ[k]? = some p) (hf0 : e0.fp p = some b0) (hfn : en.fp p = some b0) (hen : en.isElems = false) (hok : en.ok ρ p W')
    (hother : ∀ b, b ≠ b0 → W'.heap[b]? = W.heap[b]?) (hsize : W'.heap.size = W.heap.size) (hos : W'.os = W.os) (htape : W'.tape = W.tape) (hout : W'.output = W.output) (hdat : (∀ fr b, Dom w0 G ρ h W fr b → Dom w0 G ρ (h.set k en) W' fr b ∧ W'.heap[b]? = W.heap[b]?) → en.dat W' (Dom w0 G ρ (h.set k en) W') p := by exact fun _ => True.intro) :
    Rel w0 G ρ (h.set k en) W' := by
  have hlt : k < h.length := (List.getElem?_eq_some_iff.1 hk).1
  have hget : ∀ j e, (h.set k en)[j]? = some e → (j = k ∧ e = en) ∨ (j ≠ k ∧ h[j]? = some e) := fun j e he => by
    by_cases hj : j = k
    · subst hj
      rw [List.getElem?_set_self hlt] at he
      exact Or.inl ⟨rfl, (Option.some.inj he).symm⟩
    · rw [List.getElem?_set_ne (fun e => hj e.symm)] at he
      exact Or.inr ⟨hj, he⟩
  have hkf : fp ρ h k = some b0 := by rw [fp_mk hk hp]; exact hf0
  have hfp : ∀ j b, fp ρ (h.set k en) j = some b → fp ρ h j = some b := fun j b hf => by
    obtain ⟨e, q, he, hq, hx⟩ := fp_some hf
    rcases hget j e he with ⟨rfl, rfl⟩ | ⟨hj, he'⟩
    · rw [hp] at hq
      cases hq
      rw [hkf, ← hfn]; exact hx
    · rw [fp_mk he' hq]; exact hx
  have hst := r.datStep (W' := W') (Nat.le_of_eq hsize.symm) (fun i b hf => Or.inl ⟨i, hfp i b hf⟩) fun b _ hn _ => hother b fun e1 => hn k (by rw [e1]; exact hkf)
  refine ⟨by rw [r.len, List.length_set], fun j e q he hq => ?_, fun j b hf => ?_, fun i j b hi hj => r.dis i j b (hfp i b hi) (hfp j b hj), fun i hi hG => ?_, fun j e q he hq => ?_, hos.trans r.os, htape.trans r.tape, hout.trans r.output, by rw [hsize]; exact r.size⟩
  · rcases hget j e he with ⟨rfl, rfl⟩ | ⟨hj, he'⟩
    · rw [hp] at hq
      cases hq
      exact hok
    · refine Ent.ok_of_block (r.ok j e q he' hq) fun b hb' => hother b fun e1 => hj ?_
      subst e1
      rcases dep_fp hb' with h1 | h1
      · exact r.dis j k _ (by rw [fp_mk he' hq]; exact h1) hkf
      · exact absurd hkf ((r.ro he' hq h1 hb').2.1 k)
  · rw [hsize]; exact r.own j b (hfp j b hf)
  · rw [hother i fun e1 => ?_]
    · exact r.kept i hi hG
    · subst e1
      rcases (r.own k _ hkf).2 with h1 | h1
      · exact hG h1
      · omega
  · rcases hget j e he with ⟨rfl, rfl⟩ | ⟨hj, he'⟩
    · rw [hp] at hq
      cases hq
      exact hdat hst
    · exact Ent.dat_mono (r.dat j e q he' hq) hst fun b hb => hother b fun e1 => hj (r.dis j k b (by rw [fp_mk he' hq]; exact hb) (by rw [e1]; exact hkf))

theorem updM_ok {ρ : List Pl} {kk : IntKind} {i : Nat} {v : Int} : ∀ {cs us : List CV} {vs : List Value} (j : Nat), updM .std kk i v j cs = some us → IsL ρ cs vs → IsL ρ us (if j ≤ i then vs.set (i - j) (.int kk v) else vs)
  | [], us, vs, j, h, hv => by
    cases h
    cases vs with
    | nil => split <;> exact IsL.nil ρ
    | cons v vs => simp [IsL] at hv
  | c :: cs, us, vs, j, h, hv => by
    cases c with
    | int k' n =>
      simp only [updM] at h
      split at h
      · rename_i hk
        have hk : kk = k' := by simpa using hk
        subst hk
        split at h
        · rename_i l hl
          cases h
          cases vs with
          | nil => simp [IsL] at hv
          | cons w vs =>
            simp only [IsL, List.map_cons, List.cons.injEq] at hv
            have ih := updM_ok (j + 1) hl hv.2
            have hw : w = .int kk n := (Option.some.inj hv.1).symm
            by_cases h1 : j + 1 ≤ i
            · rw [if_pos h1] at ih
              rw [if_pos (by omega), show i - j = (i - (j + 1)) + 1 by omega, List.set_cons_succ]
              refine IsL.cons ?_ ih
              show some (Value.int kk (if i = j then v else n)) = _
              rw [if_neg (by omega), hw]
            · rw [if_neg h1] at ih
              by_cases h2 : j ≤ i
              · have hij : i = j := by omega
                rw [if_pos h2, show i - j = 0 by omega, List.set_cons_zero]
                refine IsL.cons ?_ ih
                show some (Value.int kk (if i = j then v else n)) = _
                rw [if_pos hij]
              · rw [if_neg h2]
                refine IsL.cons ?_ ih
                show some (Value.int kk (if i = j then v else n)) = _
                rw [if_neg (by omega), hw]
        · cases h
      · cases h
    | _ => simp [updM] at h

theorem storeK_ok {P : Program} {N : Env} (hA : N.A = .std) (hE : N.E.Ok P) {w0 : World} {G : Gs} {ρ : List Pl} {st : St} {a : Act} {W : World} {o : Oper} {hS : List Ent} {Q : Exit → Act → World → Prop} {K : St → Prop} {next : Act → World → Prop}
    (r : Rel w0 G ρ st.h W) (hs : IsS ρ st.t a.tmps.toList) (hd : a.defers = []) (hl : Le hS st.h) (hl2 : hS.length ≤ st.h.length) (hn : Next w0 G ρ hS K next)
    {ty : TypeId} {x y : Operand} (ho : o.op = .store ty x y) (hK : storeK N hS ty (ev st.t x) (ev st.t y) o.dst st K) : o.wp P a W next Q := by
  have he : ∀ x, (ev st.t x).is ρ (a.eval x) := ev_is hs
  unfold storeK at hK
  split at hK
  · rename_i k off xs i hx hy hi
    split at hK
    · rename_i t cs hk
      split at hK
      · rename_i hb
        simp only [Bool.and_eq_true, Nat.beq_eq, Nat.ble_eq] at hb
        obtain ⟨⟨hb1, hb2⟩, hb3⟩ := hb
        have hx' := he x
        rw [hx] at hx'
        obtain ⟨p, hp, hu⟩ := den_ptr hx'
        obtain ⟨us, hu1, hu2⟩ := svCells_ok (he y) hy
        obtain ⟨vs, hv1, hv2⟩ := r.ok k _ p hk hp
        obtain ⟨i1, d1, z1, T1⟩ := TI.spec (hE.T ty i hi)
        have hlen : us.length = xs.length := hu1.len.symm
        have hvl : vs.length = cs.length := hv1.len.symm
        obtain ⟨g1, g2, g3, g4, g5, g6⟩ := heap_setCells p.b us off W vs t hv2
        have hone : ∀ v ∈ us, v.oneCell' = true := fun v hv => by
          obtain ⟨j, hj, hjv⟩ := List.mem_iff_getElem.1 hv
          obtain ⟨c, _, hc⟩ := hu1.getr (i := j) (u := v) (by rw [List.getElem?_eq_getElem hj, hjv])
          have := CV.den_oneCell hc
          cases v <;> first | rfl | cases this
        have hthere : W.there p.b off us.toArray.size := fun j hj => by
          have hj' : j < us.length := by simpa using hj
          constructor
          · rw [cell_of_row W p.b (off + j) _ t (0, 0) hv2]
            simp
            omega
          · simp [World.frozen?, hv2]
        have hrun : (execOp a.eval o).run P W = .ok .skip (W.setCells p.b off us) := by
          simp only [execOp, ho, hu, Instr.storeAt, Instr.sureAddr, Sem.run_bind, Sem.run_pure, Result.andThen_ok]
          rw [cells_agg hu2, run_storeVar_mid W p.b off ty us.toArray hthere (by rw [T1.info]; simp [T1.size]; omega) (all_oneCell_toArray hone)]
          rfl
        unfold Oper.wp
        rw [hrun, Oper.upon_skip]
        have hwr := r.write (W' := W.setCells p.b off us) hk hp (isL_setMany off hu1 hv1) (by rw [g1]) g2 g3 g4 g5 g6
        refine hn [] _ _ _ (by rw [List.append_nil]; exact hwr) (by rw [List.append_nil]; exact put_is hs (rfl : SV.is ρ .und undef)) (by rw [put_defers]; exact hd) ?_ (by rw [List.length_set]; exact hl2) hK
        intro j e he
        by_cases hj : j = k
        · subst hj; exact Or.inl (maskedAt_spec hb3 he)
        · rcases hl j e he with h1 | h1
          · exact Or.inl h1
          · right
            rw [List.getElem?_set_ne (fun e => hj e.symm)]; exact h1
      · exact hK.elim
    · exact hK.elim
  · rename_i k i off m kk v ti hx hy hi
    split at hK
    · rename_i t cs hk
      split at hK
      · rename_i us hus
        split at hK
        · rename_i hb
          simp only [Bool.and_eq_true, Nat.beq_eq, Nat.ble_eq] at hb
          obtain ⟨⟨⟨hb1, hb2⟩, hb3⟩, hb4⟩ := hb
          rw [hA] at hus hK
          have hin : i < m := hK.pre
          have hrest := hK.rest hK.pre
          have hx' := he x
          rw [hx] at hx'
          obtain ⟨p, hp, hu⟩ := den_aptr hx'
          obtain ⟨ws, hw1, hw2⟩ := svCells_ok (he y) hy
          have hws : ws = [.int kk v] := by
            have := hw1.unique (show IsL ρ [.int kk v] [.int kk v] from rfl)
            exact this
          subst hws
          obtain ⟨vs, hv1, hv2⟩ := r.ok k _ p hk hp
          obtain ⟨i1, d1, z1, T1⟩ := TI.spec (hE.T ty ti hi)
          have hvl : vs.length = cs.length := hv1.len.symm
          obtain ⟨g1, g2, g3, g4, g5, g6⟩ := heap_setCells p.b [.int kk v] (off + i) W vs t hv2
          rw [setV_fold] at g1
          have hthere : W.there p.b (off + i) [Value.int kk v].toArray.size := fun j hj => by
            have hj' : j < 1 := by simpa using hj
            constructor
            · rw [cell_of_row W p.b (off + i + j) _ t (0, 0) hv2]
              simp
              omega
            · simp [World.frozen?, hv2]
          have hrun : (execOp a.eval o).run P W = .ok .skip (W.setCells p.b (off + i) [.int kk v]) := by
            simp only [execOp, ho, hu, Instr.storeAt, Instr.sureAddr, Sem.run_bind, Sem.run_pure, Result.andThen_ok]
            rw [cells_agg hw2, run_storeVar_mid W p.b (off + i) ty [Value.int kk v].toArray hthere (by rw [T1.info]; simp [T1.size]; omega) (all_oneCell_toArray (by simp [Value.oneCell']))]
            rfl
          unfold Oper.wp
          rw [hrun, Oper.upon_skip]
          have hup := updM_ok (ρ := ρ) 0 hus ((hv1.drop off).take m)
          rw [if_pos (Nat.zero_le _), Nat.sub_zero] at hup
          have hval : setV vs off (((vs.drop off).take m).set i (.int kk v)) = setV vs (off + i) [.int kk v] := by
            apply List.ext_getElem?
            intro q
            rw [setV_get, setV_get]
            simp only [List.length_set, List.length_take, List.length_drop, List.length_singleton]
            by_cases hq : q = off + i
            · subst hq
              rw [if_pos (by omega), if_pos (by omega), show off + i - off = i by omega, show off + i - (off + i) = 0 by omega]
              rw [List.getElem?_set_self (by simp; omega)]
              rfl
            · rw [if_neg (show ¬ (off + i ≤ q ∧ q < off + i + 1 ∧ q < vs.length) by omega)]
              by_cases h1 : off ≤ q ∧ q < off + m ∧ q < vs.length
              · rw [if_pos (by omega), List.getElem?_set_ne (by omega), List.getElem?_take, List.getElem?_drop, if_pos (by omega)]
                congr 1
                omega
              · rw [if_neg (by omega)]
          have hvl2 : IsL ρ (setMany cs off us) (setV vs (off + i) [.int kk v]) := by rw [← hval]; exact isL_setV off hup hv1
          have hwr := r.write (W' := W.setCells p.b (off + i) [.int kk v]) hk hp (cs' := setMany cs off us) hvl2 (by rw [g1]) g2 g3 g4 g5 g6
          refine hn [] _ _ _ (by rw [List.append_nil]; exact hwr) (by rw [List.append_nil]; exact put_is hs (rfl : SV.is ρ .und undef)) (by rw [put_defers]; exact hd) ?_ (by rw [List.length_set]; exact hl2) hrest
          intro j e he
          by_cases hj : j = k
          · subst hj; exact Or.inl (maskedAt_spec hb4 he)
          · rcases hl j e he with h1 | h1
            · exact Or.inl h1
            · right
              rw [List.getElem?_set_ne (fun e => hj e.symm)]; exact h1
        · exact hK.elim
      · exact hK.elim
    · exact hK.elim
  · rename_i k i sz off xs ti hx hy hi
    split at hK
    · rename_i e' sz' n get hk
      split at hK
      · rename_i hb
        simp only [Bool.and_eq_true, Nat.beq_eq, Nat.ble_eq, Bool.not_eq_true'] at hb
        obtain ⟨⟨⟨⟨⟨hb1, hb2⟩, hb3⟩, hb4⟩, hb5⟩, hb6⟩ := hb
        subst hb1
        rw [hA] at hK
        have hin : i < n := hK.pre
        have hrest := hK.rest hK.pre
        have hx' := he x
        rw [hx] at hx'
        obtain ⟨p, hp, hu⟩ := den_eptr hx'
        obtain ⟨us, hu1, hu2⟩ := svCells_ok (he y) hy
        have hpf := isL_pf hb4 hu1 []
        obtain ⟨vs, ⟨hg1, hg2, hg3⟩, hrow⟩ := r.ok k _ p hk hp
        obtain ⟨i1, d1, z1, T1⟩ := TI.spec (hE.T ty ti hi)
        have hlen : us.length = xs.length := hu1.len.symm
        rcases hrow.2 with ⟨_, hn0⟩ | ⟨g, cap, cur, hpv, hg0, hgh, hnc, hcm, hcs, htake⟩
        · omega
        have hgb : g = p.b := hg3 g (by rw [hpv]; rfl)
        subst hgb
        have h1n := Nat.mul_le_mul_right sz (show i + 1 ≤ n from hin)
        have h1c := Nat.mul_le_mul_right sz hnc
        rw [Nat.add_mul, Nat.one_mul] at h1n
        have hcl : cur.toList.toArray = cur := by simp
        obtain ⟨g1, g2, g3, g4, g5, g6⟩ := heap_setCells p.b us (i * sz + off) W cur.toList e' (by rw [hcl]; exact hgh)
        rw [setV_fold] at g1
        have hone : ∀ v ∈ us, v.oneCell' = true := fun v hv => by
          obtain ⟨j, hj, hjv⟩ := List.mem_iff_getElem.1 hv
          obtain ⟨c, _, hc⟩ := hu1.getr (i := j) (u := v) (by rw [List.getElem?_eq_getElem hj, hjv])
          have := CV.den_oneCell hc
          cases v <;> first | rfl | cases this
        have hthere : W.there p.b (i * sz + off) us.toArray.size := fun j hj => by
          have hj' : j < us.length := by simpa using hj
          constructor
          · rw [cell_of_row W p.b (i * sz + off + j) _ e' (0, 0) hgh]
            simp
            omega
          · simp [World.frozen?, hgh]
        have hpo : p.o + i * sz + off = i * sz + off := by rw [hg2]; omega
        have hrun : (execOp a.eval o).run P W = .ok .skip (W.setCells p.b (i * sz + off) us) := by
          simp only [execOp, ho, hu, Instr.storeAt, Instr.sureAddr, Sem.run_bind, Sem.run_pure, Result.andThen_ok]
          rw [cells_agg hu2, hpo, run_storeVar_mid W p.b (i * sz + off) ty us.toArray hthere (by rw [T1.info]; simp [T1.size]; omega) (all_oneCell_toArray hone)]
          rfl
        unfold Oper.wp
        rw [hrun, Oper.upon_skip]
        have hok : Ent.ok ρ p (W.setCells p.b (i * sz + off) us) (.row e' sz n (upG get i off xs)) := by
          refine ⟨setV vs (i * sz + off) us, ⟨fun j hj => ?_, hg2, hg3⟩, by rw [setV_len]; exact hrow.1, Or.inr ⟨p.b, cap, (setV cur.toList (i * sz + off) us).toArray, hpv, hg0, g1, hnc, hcm, by simp [setV_len, hcs], ?_⟩⟩
          · rw [chunk_setV (by omega) (by rw [hrow.1]; exact h1n)]
            unfold upG
            by_cases hji : j = i
            · subst hji
              rw [if_pos rfl, show Nat.beq j j = true by simp]
              exact isL_setV off hpf (hg1 j hj)
            · rw [if_neg hji, show Nat.beq j i = false by rw [Bool.eq_false_iff]; exact fun h => hji (Nat.eq_of_beq_eq_true h)]
              exact hg1 j hj
          · rw [List.toList_toArray, take_setV (by omega), htake]
        have hfp0 : Ent.fp p (.row e' sz n get) = some p.b := by simp [Ent.fp, hpv, Value.ownBlock]
        have hwr := r.turn (W' := W.setCells p.b (i * sz + off) us) (en := .row e' sz n (upG get i off xs)) hk hp hfp0 hfp0 rfl hok g2 g3 g4 g5 g6
        refine hn [] _ _ _ (by rw [List.append_nil]; exact hwr) (by rw [List.append_nil]; exact put_is hs (rfl : SV.is ρ .und undef)) (by rw [put_defers]; exact hd) ?_ (by rw [List.length_set]; exact hl2) hrest
        intro j e he
        by_cases hj : j = k
        · subst hj; exact Or.inl (maskedAt_spec hb5 he)
        · rcases hl j e he with h1 | h1
          · exact Or.inl h1
          · right
            rw [List.getElem?_set_ne (fun e => hj e.symm)]; exact h1
      · exact hK.elim
    · rename_i e' l hk
      split at hK
      · rename_i n
        split at hK
        · rename_i hb
          simp only [Bool.and_eq_true, Nat.beq_eq] at hb
          obtain ⟨⟨⟨rfl, rfl⟩, hb3⟩, hb4⟩ := hb
          rw [hA] at hK
          have hin : i + 1 ≤ l.length := hK.pre.1
          have hbyte : 0 ≤ n ∧ n < 256 := hK.pre.2
          have hrest := hK.rest hK.pre
          have hx' := he x
          rw [hx] at hx'
          obtain ⟨p, hp, hu⟩ := den_eptr hx'
          obtain ⟨us, hu1, hu2⟩ := svCells_ok (he y) hy
          obtain ⟨hB, hpo, hpb⟩ := r.ok k _ p hk hp
          obtain ⟨i1, d1, z1, T1⟩ := TI.spec (hE.T ty ti hi)
          obtain rfl : us = [.int .u8 n] := by
            cases us with
            | nil => simp [IsL] at hu1
            | cons u us =>
              simp only [IsL, List.map_cons, List.cons.injEq, CV.den, Option.some.injEq] at hu1
              have := hu1.2
              cases us with
              | nil => rw [hu1.1]
              | cons => simp at this
          rcases hB with ⟨_, hn0⟩ | ⟨g, cap, cur, fz, hpv, hgh, hfz, hnc, hcm, hcs, htake⟩
          · rw [hn0] at hin; simp at hin
          have hgb : g = p.b := hpb g (by rw [hpv]; rfl)
          subst hgb
          have hcl : cur.toList.toArray = cur := by simp
          obtain ⟨g1, g2, g3, g4, g5, g6⟩ := heap_setCells p.b [.int .u8 n] i W cur.toList e' (by rw [hcl]; exact hgh)
          rw [setV_fold] at g1
          have hthere : W.there p.b i #[Value.int .u8 n].size := fun j hj => by
            have hj' : j = 0 := by simp at hj; exact hj
            subst hj'
            constructor
            · rw [cell_of_row W p.b (i + 0) _ e' fz hgh]
              simp
              omega
            · obtain ⟨lo, hi'⟩ := fz
              simp only [World.frozen?, hgh, Bool.and_eq_false_iff, decide_eq_false_iff_not]
              simp only at hfz
              omega
          have hpo2 : p.o + i * 1 + 0 = i := by rw [hpo]; omega
          have hrun : (execOp a.eval o).run P W = .ok .skip (W.setCells p.b i [.int .u8 n]) := by
            simp only [execOp, ho, hu, Instr.storeAt, Instr.sureAddr, Sem.run_bind, Sem.run_pure, Result.andThen_ok]
            rw [cells_agg hu2, hpo2, run_storeVar_mid W p.b i ty #[.int .u8 n] hthere (by rw [T1.info]; simp [T1.size, hb3]) (all_oneCell_toArray (cs := [.int .u8 n]) (fun v hv => by simp at hv; subst hv; rfl))]
            rfl
          unfold Oper.wp
          rw [hrun, Oper.upon_skip]
          have hok : Ent.ok ρ p (W.setCells p.b i [.int .u8 n]) (.bytes e' (l.set i (UInt8.ofNat n.toNat))) := by
            refine ⟨Or.inr ⟨p.b, cap, (setV cur.toList i [.int .u8 n]).toArray, fz, by rw [List.length_set]; exact hpv, g1, hfz, by rw [List.length_set]; exact hnc, hcm, by simp [setV_len, hcs], ?_⟩, hpo, hpb⟩
            rw [List.toList_toArray, List.length_set, take_setV (by simp; omega), htake]
            have : setV (l.map byteV) i [.int .u8 n] = (l.map byteV).set i (.int .u8 n) := by
              unfold setV setV
              rfl
            rw [this, List.map_set]
            congr 1
            simp [byteV]
            omega
          have hfp0 : Ent.fp p (.bytes e' l) = some p.b := by simp [Ent.fp, hpv, Value.ownBlock]
          have hwr := r.turn (W' := W.setCells p.b i [.int .u8 n]) (en := .bytes e' (l.set i (UInt8.ofNat n.toNat))) hk hp hfp0 hfp0 rfl hok g2 g3 g4 g5 g6
          refine hn [] _ _ _ (by rw [List.append_nil]; exact hwr) (by rw [List.append_nil]; exact put_is hs (rfl : SV.is ρ .und undef)) (by rw [put_defers]; exact hd) ?_ (by rw [List.length_set]; exact hl2) hrest
          intro j e he
          by_cases hj : j = k
          · subst hj; exact Or.inl (maskedAt_spec hb4 he)
          · rcases hl j e he with h1 | h1
            · exact Or.inl h1
            · right
              rw [List.getElem?_set_ne (fun e => hj e.symm)]; exact h1
        · exact hK.elim
      · exact hK.elim
    · exact hK.elim
  · exact hK.elim

theorem isS_map {ρ : List Pl} {e : Operand → SV} {g : Operand → Value} (h : ∀ x, (e x).is ρ (g x)) : ∀ l : List Operand, IsS ρ (l.map e) (l.map g)
  | [] => rfl
  | x :: l => ⟨g x, l.map g, rfl, h x, isS_map h l⟩

theorem callK_gen {P : Program} {N : Env} (hC : CtsOk P N.C) {w0 : World} {G : Gs} {ρ : List Pl} {st : St} {a : Act} {W : World} {o : Oper} {hS : List Ent} {Q : Exit → Act → World → Prop} {K : St → Prop} {next : Act → World → Prop}
    (r : Rel w0 G ρ st.h W) (hs : IsS ρ st.t a.tmps.toList) (hd : a.defers = []) (hl : Le hS st.h) (hl2 : hS.length ≤ st.h.length) (hn : Next w0 G ρ hS K next)
    {f : FuncId} {args : List SV} {us : List Value} (hus : IsS ρ args us) (hx : ∀ w, (execOp a.eval o).run P w = (callFunc f us.toArray).run P w) (hK : callK N hS f args o.dst st K) : o.wp P a W next Q := by
  unfold callK at hK
  split at hK
  · rename_i app happ
    split at hK
    · rename_i c hc
      split at hK
      · rename_i hm
        obtain ⟨fn, hf1, hf2, hf3⟩ := (hC f app happ).fn
        have hrun : (execOp a.eval o).run P W = .ok (.enter f us.toArray) W := by
          rw [hx]
          simp only [callFunc, Sem.run_bind, run_program, Result.andThen_ok, hf1, hf3, hf2, Bool.false_eq_true, if_false]
          rfl
        have hcall := (hC f app happ).run _ _ _ hc hK.1 w0 G ρ W _ r hus
        have hle := (hC f app happ).le _ _ _ hc
        unfold Oper.wp
        rw [hrun, Oper.upon_enter]
        refine Calls.mono hcall fun e W' he' => ?_
        obtain ⟨u, ρ', rfl, h1, h2⟩ := he'
        show next (a.put o.dst u) W'
        refine hn ρ' _ _ _ h2 (put_is (hs.app_ρ ρ') h1) (by rw [put_defers]; exact hd) ?_ (Nat.le_trans hl2 hle.1) (hK.2 hK.1)
        intro j e hj
        rcases hl j e hj with h3 | h3
        · exact Or.inl h3
        · by_cases hmem : j ∈ c.ms
          · have := (List.all_eq_true.1 hm) j hmem
            exact Or.inl (maskedAt_spec this hj)
          · right
            show c.h[j]? = some e
            rw [hle.2 j (List.getElem?_eq_some_iff.1 h3).1 hmem]; exact h3
      · exact hK.elim
    · exact hK.elim
  · exact hK.elim

theorem callK_ok {P : Program} {N : Env} (hC : CtsOk P N.C) {w0 : World} {G : Gs} {ρ : List Pl} {st : St} {a : Act} {W : World} {o : Oper} {hS : List Ent} {Q : Exit → Act → World → Prop} {K : St → Prop} {next : Act → World → Prop}
    (r : Rel w0 G ρ st.h W) (hs : IsS ρ st.t a.tmps.toList) (hd : a.defers = []) (hl : Le hS st.h) (hl2 : hS.length ≤ st.h.length) (hn : Next w0 G ρ hS K next)
    {f : FuncId} {args : Array Operand} {ats : Array TypeId} (ho : o.op = .call { callee := .value (.func f), args, argTypes := ats }) (hK : callK N hS f (args.toList.map (ev st.t)) o.dst st K) : o.wp P a W next Q := by
  have he : ∀ x, (ev st.t x).is ρ (a.eval x) := ev_is hs
  refine callK_gen hC r hs hd hl hl2 hn (isS_map he args.toList) (fun w => ?_) hK
  have eargs : (args.toList.map a.eval).toArray = args.map a.eval := by
    apply Array.ext'
    rw [Array.toList_map]
  rw [eargs]
  obtain ⟨dst, op, type, pos, after, guard⟩ := o
  simp only at ho
  subst ho
  rw [execOp_call_go]
  simp only [Array.empty_append, Array.append_empty]
theorem isS_cells {ρ : List Pl} : ∀ {cs : List CV} {vs : List Value}, IsL ρ cs vs → IsS ρ (cs.map SV.c) vs
  | [], vs, h => by cases vs <;> simp [IsL] at h; rfl
  | x :: cs, vs, h => by
    cases vs with
    | nil => simp [IsL] at h
    | cons v vs =>
      simp only [IsL, List.map_cons, List.cons.injEq] at h
      exact ⟨v, vs, rfl, h.1, isS_cells h.2⟩
/-- A call of a function value: what it holds stands behind the arguments. -/
theorem callV_ok {P : Program} {N : Env} (hC : CtsOk P N.C) {w0 : World} {G : Gs} {ρ : List Pl} {st : St} {a : Act} {W : World} {o : Oper} {hS : List Ent} {Q : Exit → Act → World → Prop} {K : St → Prop} {next : Act → World → Prop}
    (r : Rel w0 G ρ st.h W) (hs : IsS ρ st.t a.tmps.toList) (hd : a.defers = []) (hl : Le hS st.h) (hl2 : hS.length ≤ st.h.length) (hn : Next w0 G ρ hS K next)
    {i : Nat} {f : FuncId} {cs : List CV} {args : Array Operand} {ats : Array TypeId} (ho : o.op = .call { callee := .value (.tmp i), args, argTypes := ats }) (hv : ev st.t (.tmp i) = .fn f cs) (hK : callK N hS f (args.toList.map (ev st.t) ++ cs.map .c) o.dst st K) : o.wp P a W next Q := by
  have he : ∀ x, (ev st.t x).is ρ (a.eval x) := ev_is hs
  have hi := he (.tmp i)
  rw [hv] at hi
  obtain ⟨vs, h1, h2⟩ := hi
  refine callK_gen hC r hs hd hl hl2 hn ((isS_map he args.toList).append (isS_cells h1)) (fun w => ?_) hK
  have eargs : (args.toList.map a.eval ++ vs).toArray = args.map a.eval ++ vs.toArray := by
    apply Array.ext'
    simp
  rw [eargs]
  obtain ⟨dst, op, type, pos, after, guard⟩ := o
  simp only at ho
  subst ho
  simp only [execOp, resolve, h2, Deferred.ofValue, invoke, Sem.run_bind, Sem.run_pure, Result.andThen_ok, Array.empty_append]

/-- A row of bytes has grown, or a new one was made: entry k is let go, the new one stands behind. -/
theorem Rel.growE {w0 : World} {G : Gs} {ρ : List Pl} {h : List Ent} {W W' : World} (r : Rel w0 G ρ h W) {k : Nat} {p : Pl} {e0 : Ent} (hk : h[k]? = some e0) (hp : ρ[k]? = some p) (hfp0 : e0.fp p = p.v.ownBlock) (hel : e0.isElems = false)
    {en : Ent} {q0 : Pl} (hv : en.ok (ρ ++ [q0]) q0 W') (hen : en.isElems = false) (hvl : ∀ b, en.fp q0 = some b → b < W'.heap.size) (hg : W.grownBy W' p.v.ownBlock)
    (hown : ∀ b, en.fp q0 = some b → p.v.ownBlock = some b ∨ W.heap.size ≤ b) (hdat : (∀ fr b, Dom w0 G ρ h W fr b → Dom w0 G (ρ ++ [q0]) (h.set k .dead ++ [en]) W' fr b ∧ W'.heap[b]? = W.heap[b]?) → en.dat W' (Dom w0 G (ρ ++ [q0]) (h.set k .dead ++ [en]) W') q0 := by exact fun _ => True.intro) :
    Rel w0 G (ρ ++ [q0]) (h.set k .dead ++ [en]) W' := by
  have hlt : k < h.length := (List.getElem?_eq_some_iff.1 hk).1
  have hkf : fp ρ h k = p.v.ownBlock := by rw [fp_mk hk hp]; exact hfp0
  have hget : ∀ j x, (h.set k .dead ++ [en])[j]? = some x → (j < h.length ∧ j = k ∧ x = .dead) ∨ (j < h.length ∧ j ≠ k ∧ h[j]? = some x) ∨ (j = h.length ∧ x = en) := fun j x hx => by
    rcases getElem?_snoc hx with ⟨h1, h2⟩ | ⟨h1, h2⟩
    · rw [List.length_set] at h1
      by_cases hj : j = k
      · subst hj
        rw [List.getElem?_set_self hlt] at h2
        exact Or.inl ⟨h1, rfl, (Option.some.inj h2).symm⟩
      · rw [List.getElem?_set_ne (fun e => hj e.symm)] at h2
        exact Or.inr (Or.inl ⟨h1, hj, h2⟩)
    · rw [List.length_set] at h1
      exact Or.inr (Or.inr ⟨h1, h2⟩)
  have hpl : ∀ j q, (ρ ++ [q0])[j]? = some q → (j < h.length → ρ[j]? = some q) ∧ (j = h.length → q = q0) := fun j q hq => by
    rcases getElem?_snoc hq with ⟨h1, h2⟩ | ⟨h1, h2⟩
    · exact ⟨fun _ => h2, fun e => by rw [r.len] at h1; omega⟩
    · exact ⟨fun h3 => by rw [r.len] at h1; omega, fun _ => h2⟩
  have hkeep : ∀ j x q b, j ≠ k → h[j]? = some x → ρ[j]? = some q → x.dep q = some b → W'.heap[b]? = W.heap[b]? := fun j x q b hj hx hq hb => by
    refine hg.block b (r.dep_lt hx hq hb) fun e1 => ?_
    rcases dep_fp hb with h1 | h1
    · exact hj (r.dis j k b (by rw [fp_mk hx hq]; exact h1) (by rw [hkf]; exact e1.symm))
    · exact (r.ro hx hq h1 hb).2.1 k (by rw [hkf]; exact e1.symm)
  have hfp : ∀ j b, fp (ρ ++ [q0]) (h.set k .dead ++ [en]) j = some b → (j < h.length ∧ j ≠ k ∧ fp ρ h j = some b) ∨ (j = h.length ∧ en.fp q0 = some b) := fun j b hf => by
    obtain ⟨x, q, hx, hq, hb⟩ := fp_some hf
    rcases hget j x hx with ⟨h1, rfl, rfl⟩ | ⟨h1, h2, h3⟩ | ⟨h1, rfl⟩
    · cases hb
    · exact Or.inl ⟨h1, h2, by rw [fp_mk h3 ((hpl j q hq).1 h1)]; exact hb⟩
    · rw [(hpl j q hq).2 h1] at hb
      exact Or.inr ⟨h1, hb⟩
  have hvlt := hvl
  have hst : ∀ fr b, Dom w0 G ρ h W fr b → Dom w0 G (ρ ++ [q0]) (h.set k .dead ++ [en]) W' fr b ∧ W'.heap[b]? = W.heap[b]? := by
    refine r.datStep hg.size (fun i b hf => ?_) fun b hb hn _ => hg.block b hb fun e1 => hn k (by rw [hkf]; exact e1.symm)
    rcases hfp i b hf with ⟨_, _, h3⟩ | ⟨_, h3⟩
    · exact Or.inl ⟨i, h3⟩
    · rcases hown b h3 with h4 | h4
      · exact Or.inl ⟨k, by rw [hkf]; exact h4⟩
      · exact Or.inr h4
  refine ⟨by simp [r.len], fun j x q hx hq => ?_, fun j b hf => ?_, fun i j b hi hj => ?_, fun i hi hG => ?_, fun j x q hx hq => ?_, hg.os.trans r.os, hg.tape.trans r.tape, hg.output.trans r.output, Nat.le_trans r.size hg.size⟩
  · rcases hget j x hx with ⟨h1, rfl, rfl⟩ | ⟨h1, h2, h3⟩ | ⟨h1, rfl⟩
    · trivial
    · exact Ent.ok_app (Ent.ok_of_block (r.ok j x q h3 ((hpl j q hq).1 h1)) fun b hb => hkeep j x q b h2 h3 ((hpl j q hq).1 h1) hb) _
    · rw [(hpl j q hq).2 h1]; exact hv
  · rcases hfp j b hf with ⟨h1, h2, h3⟩ | ⟨h1, h2⟩
    · exact ⟨Nat.lt_of_lt_of_le (r.own j b h3).1 hg.size, (r.own j b h3).2⟩
    · refine ⟨hvlt b h2, ?_⟩
      rcases hown b h2 with h3 | h3
      · exact (r.own k b (by rw [hkf]; exact h3)).2
      · exact Or.inr (Nat.le_trans r.size h3)
  · have hnew : ∀ j b, j < h.length → j ≠ k → fp ρ h j = some b → en.fp q0 = some b → False := fun j b h1 h2 h3 h4 => by
      rcases hown b h4 with h5 | h5
      · exact h2 (r.dis j k b h3 (by rw [hkf]; exact h5))
      · have := (r.own j b h3).1
        omega
    rcases hfp i b hi with ⟨h1, h2, h3⟩ | ⟨h1, h2⟩
    · rcases hfp j b hj with ⟨g1, g2, g3⟩ | ⟨g1, g2⟩
      · exact r.dis i j b h3 g3
      · exact (hnew i b h1 h2 h3 g2).elim
    · rcases hfp j b hj with ⟨g1, g2, g3⟩ | ⟨g1, g2⟩
      · exact (hnew j b g1 g2 g3 h2).elim
      · omega
  · rw [hg.block i (Nat.lt_of_lt_of_le hi r.size) fun e1 => ?_]
    · exact r.kept i hi hG
    · rcases (r.own k i (by rw [hkf]; exact e1.symm)).2 with h1 | h1
      · exact hG h1
      · omega
  · rcases hget j x hx with ⟨g1, rfl, rfl⟩ | ⟨g1, g2, g3⟩ | ⟨g1, rfl⟩
    · trivial
    · refine Ent.dat_mono (r.dat j x q g3 ((hpl j q hq).1 g1)) hst fun b hb => ?_
      have hjf : fp ρ h j = some b := by rw [fp_mk g3 ((hpl j q hq).1 g1)]; exact hb
      exact hg.block b (r.own j b hjf).1 fun e1 => g2 (r.dis j k b hjf (by rw [hkf]; exact e1.symm))
    · rw [(hpl j q hq).2 g1]; exact hdat hst

/-- A row of bytes that is made anew. -/
theorem Rel.bornE {w0 : World} {G : Gs} {ρ : List Pl} {h : List Ent} {W W' : World} (r : Rel w0 G ρ h W) {en : Ent} {q0 : Pl} (hv : en.ok (ρ ++ [q0]) q0 W') (hen : true = true) (hvl : ∀ b, en.fp q0 = some b → b < W'.heap.size) (hg : W.grownBy W' none)
    (hown : ∀ b, en.fp q0 = some b → W.heap.size ≤ b) (hdat : (∀ fr b, Dom w0 G ρ h W fr b → Dom w0 G (ρ ++ [q0]) (h ++ [en]) W' fr b ∧ W'.heap[b]? = W.heap[b]?) → en.dat W' (Dom w0 G (ρ ++ [q0]) (h ++ [en]) W') q0 := by exact fun _ => True.intro) : Rel w0 G (ρ ++ [q0]) (h ++ [en]) W' := by
  have hpl : ∀ j q, (ρ ++ [q0])[j]? = some q → (j < h.length → ρ[j]? = some q) ∧ (j = h.length → q = q0) := fun j q hq => by
    rcases getElem?_snoc hq with ⟨h1, h2⟩ | ⟨h1, h2⟩
    · exact ⟨fun _ => h2, fun e => by rw [r.len] at h1; omega⟩
    · exact ⟨fun h3 => by rw [r.len] at h1; omega, fun _ => h2⟩
  have hkeep : ∀ b, b < W.heap.size → W'.heap[b]? = W.heap[b]? := fun b hb => hg.block b hb (by simp)
  have hfp : ∀ j b, fp (ρ ++ [q0]) (h ++ [en]) j = some b → (j < h.length ∧ fp ρ h j = some b) ∨ (j = h.length ∧ en.fp q0 = some b) := fun j b hf => by
    obtain ⟨x, q, hx, hq, hb⟩ := fp_some hf
    rcases getElem?_snoc hx with ⟨h1, h2⟩ | ⟨h1, rfl⟩
    · exact Or.inl ⟨h1, by rw [fp_mk h2 ((hpl j q hq).1 h1)]; exact hb⟩
    · rw [(hpl j q hq).2 h1] at hb
      exact Or.inr ⟨h1, hb⟩
  have hst : ∀ fr b, Dom w0 G ρ h W fr b → Dom w0 G (ρ ++ [q0]) (h ++ [en]) W' fr b ∧ W'.heap[b]? = W.heap[b]? := by
    refine r.datStep hg.size (fun i b hf => ?_) fun b hb _ _ => hkeep b hb
    rcases hfp i b hf with ⟨_, h3⟩ | ⟨_, h3⟩
    · exact Or.inl ⟨i, h3⟩
    · exact Or.inr (hown b h3)
  refine ⟨by simp [r.len], fun j x q hx hq => ?_, fun j b hf => ?_, fun i j b hi hj => ?_, fun i hi hG => ?_, fun j x q hx hq => ?_, hg.os.trans r.os, hg.tape.trans r.tape, hg.output.trans r.output, Nat.le_trans r.size hg.size⟩
  · rcases getElem?_snoc hx with ⟨h1, h2⟩ | ⟨h1, rfl⟩
    · exact Ent.ok_app (Ent.ok_of_block (r.ok j x q h2 ((hpl j q hq).1 h1)) fun b hb => hkeep b (r.dep_lt h2 ((hpl j q hq).1 h1) hb)) _
    · rw [(hpl j q hq).2 h1]; exact hv
  · rcases hfp j b hf with ⟨h1, h3⟩ | ⟨h1, h2⟩
    · exact ⟨Nat.lt_of_lt_of_le (r.own j b h3).1 hg.size, (r.own j b h3).2⟩
    · exact ⟨hvl b h2, Or.inr (Nat.le_trans r.size (hown b h2))⟩
  · rcases hfp i b hi with ⟨h1, h3⟩ | ⟨h1, h2⟩
    · rcases hfp j b hj with ⟨g1, g3⟩ | ⟨g1, g2⟩
      · exact r.dis i j b h3 g3
      · have := (r.own i b h3).1; have := hown b g2; omega
    · rcases hfp j b hj with ⟨g1, g3⟩ | ⟨g1, g2⟩
      · have := (r.own j b g3).1; have := hown b h2; omega
      · omega
  · rw [hkeep i (Nat.lt_of_lt_of_le hi r.size)]
    exact r.kept i hi hG
  · rcases getElem?_snoc hx with ⟨g1, g2⟩ | ⟨g1, rfl⟩
    · exact Ent.dat_mono (r.dat j x q g2 ((hpl j q hq).1 g1)) hst fun b hb => hkeep b (r.own j b (by rw [fp_mk g2 ((hpl j q hq).1 g1)]; exact hb)).1
    · rw [(hpl j q hq).2 g1]; exact hdat hst

theorem Rel.grow {w0 : World} {G : Gs} {ρ : List Pl} {h : List Ent} {W W' : World} (r : Rel w0 G ρ h W) {k : Nat} {p : Pl} {e0 : Ent} (hk : h[k]? = some e0) (hp : ρ[k]? = some p) (hfp0 : e0.fp p = p.v.ownBlock) (hel : e0.isElems = false)
    {e : TypeId} {l : List UInt8} {v : Value} (hv : BytesAt W' e v l) (hg : W.grownBy W' p.v.ownBlock)
    (hown : ∀ b, v.ownBlock = some b → p.v.ownBlock = some b ∨ W.heap.size ≤ b) :
    Rel w0 G (ρ ++ [plB v]) (h.set k .dead ++ [.bytes e l]) W' :=
  r.growE (en := .bytes e l) (q0 := plB v) hk hp hfp0 hel (hv.okB _) rfl (fun b hb => hv.lt b hb) hg hown
theorem Rel.born {w0 : World} {G : Gs} {ρ : List Pl} {h : List Ent} {W W' : World} (r : Rel w0 G ρ h W) {e : TypeId} {l : List UInt8} {v : Value} (hv : BytesAt W' e v l) (hg : W.grownBy W' none)
    (hown : ∀ b, v.ownBlock = some b → W.heap.size ≤ b) : Rel w0 G (ρ ++ [plB v]) (h ++ [.bytes e l]) W' :=
  r.bornE (en := .bytes e l) (q0 := plB v) (hv.okB _) rfl (fun b hb => hv.lt b hb) hg hown

theorem strCells_byteV (l : List UInt8) : Lib.strCells ⟨l.toArray⟩ = l.map byteV := by simp [Lib.strCells, byteV]

/-- Cells are stored where nothing is frozen. -/
theorem run_storeCells_atM (P : Program) (g o : Nat) (t : TypeId) (fz : Nat × Nat) : ∀ (vs : List Value) (i : Nat) (cur : Array Value) (w : World), w.heap[g]? = some (.cells cur t fz) → (fz.2 = 0 ∨ cur.size ≤ fz.1) → o + i + vs.length ≤ cur.size → (∀ v ∈ vs, v.oneCell' = true) →
    (storeCells ⟨g, o, none⟩ vs i).run P w = .ok () (w.setRow g (cur.toList.take (o + i) ++ vs ++ cur.toList.drop (o + i + vs.length)).toArray)
  | [], i, cur, w, hg, _, _, _ => by
    simp only [storeCells, List.append_nil, List.length_nil, Nat.add_zero, List.take_append_drop, Array.toArray_toList]
    rw [setRow_self w g cur t fz hg]
    rfl
  | v :: rest, i, cur, w, hg, hfz, hl, h1 => by
    have hi : o + i < cur.size := by simp at hl; omega
    have hadd : (⟨g, o, none⟩ : Addr).add i = ⟨g, o + i, none⟩ := addr_add
    have hcell : w.cell? ⟨g, o + i, none⟩ = some cur[o + i] := by simp [World.cell?, hg, hi]
    have hfro : w.frozen? ⟨g, o + i, none⟩ = false := by
      obtain ⟨lo, hi'⟩ := fz
      simp only [World.frozen?, hg, Bool.and_eq_false_iff, decide_eq_false_iff_not]
      simp only at hfz
      omega
    have hst : (store ((⟨g, o, none⟩ : Addr).add i) v).run P w = .ok () (w.setRow g (cur.setIfInBounds (o + i) v)) := by
      rw [hadd, run_store P w _ v _ (h1 v (by simp)), hcell]
      simp [hfro, setCell_eq_setRow w g (o + i) cur t fz v hg]
    have ih := run_storeCells_atM P g o t fz rest (i + 1) (cur.setIfInBounds (o + i) v) (w.setRow g (cur.setIfInBounds (o + i) v)) (setRow_heap w g cur _ t _ hg) (by simpa using hfz) (by simp at hl ⊢; omega) (fun x hx => h1 x (by simp [hx]))
    simp only [storeCells, Sem.run_bind, hst, Result.andThen_ok, ih, setRow_setRow]
    congr 3
    have e := list_seg_step cur.toList (o + i) v rest (by simp at hl ⊢; omega)
    simpa [Array.toList_setIfInBounds, Nat.add_assoc] using e

/-- What append of bytes comes to. -/
theorem run_append_bytes {P : Program} {W : World} {tx ty t e : TypeId} {i : TypeInfo} (ht : P.underlying tx = some (.slice e)) (hi : P.info? e = some i) (hz : i.zero = some (.int .u8 0)) (hsize : i.size = 1) (hby : i.bytes = 1)
    {v y : Value} {l m : List UInt8} (hown : BytesAt W e v l) (hlen : l.length + m.length ≤ 140737488355328)
    (hy : (P.underlying ty = some .string ∧ y = .string ⟨m.toArray⟩) ∨ (ty = tx ∧ ∃ ad c, y = .slice (some ad) m.length c ∧ ∀ j u, (m.map byteV)[j]? = some u → W.cell? (ad.add j) = some u)) :
    ∃ v' W', (Builtin.append_ #[tx, ty] t #[v, y]).run P W = .ok v' W' ∧ BytesAt W' e v' (l ++ m) ∧ W.grownBy W' v.ownBlock ∧ (∀ b, v'.ownBlock = some b → v.ownBlock = some b ∨ W.heap.size ≤ b) := by
  have hml : maxLen = 9223372036854775807 := rfl
  have hone : ∀ u ∈ m.map byteV, u.oneCell' = true := fun u hu => by
    obtain ⟨x, _, rfl⟩ := List.mem_map.1 hu
    rfl
  have hsz : (⟨m.toArray⟩ : ByteArray).size = m.length := rfl
  rcases hown with ⟨rfl, rfl⟩ | ⟨g, cap, cur, fz, rfl, hh, hfz, hnc, hcm, hcs, htake⟩
  · have hnil : W.ownsRow W.heap.size e 1 (.slice none 0 0) 0 [] := World.ownsRow_nil W _ e 1
    rw [List.nil_append]
    have hlen' : m.length ≤ 140737488355328 := by simpa using hlen
    rcases hy with ⟨hu, rfl⟩ | ⟨rfl, ad, c, rfl, hcells⟩
    · obtain ⟨v', W', h1, h2, h3, h4⟩ := Lib.run_append_own_string (P := P) W W.heap.size tx ty t e i ht hu hi hz hsize hby _ 0 [] hnil ⟨m.toArray⟩ (by rw [hsz, hml]; omega) (by rw [hsz]; omega) (Nat.le_refl _)
      rw [strCells_byteV, hsz, Nat.zero_add, List.nil_append] at h2
      exact ⟨v', W', h1, BytesAt.of h2, h3, fun b hb => Or.inr (World.ownsRow.lt h2 b hb).1⟩
    · obtain ⟨v', W', h1, h2, h3, h4⟩ := run_append_own (P := P) W W.heap.size ty t e i (.int .u8 0) 1 1 ht hi hz hsize hby rfl (by decide) _ 0 [] hnil ad m.length c (m.map byteV) (by simp) hcells hone (by rw [hml]; omega) (by omega) (Nat.le_refl _)
      rw [Nat.zero_add, List.nil_append] at h2
      exact ⟨v', W', h1, BytesAt.of h2, h3, fun b hb => Or.inr (World.ownsRow.lt h2 b hb).1⟩
  · have hown' : BytesAt W e (.slice (some ⟨g, 0, none⟩) l.length cap) l := Or.inr ⟨g, cap, cur, fz, rfl, hh, hfz, hnc, hcm, hcs, htake⟩
    have hll : (l ++ m).length = l.length + m.length := List.length_append
    by_cases hroom : l.length + m.length ≤ cap
    · have hst := run_storeCells_atM P g l.length e fz (m.map byteV) 0 cur W hh (by omega) (by simp; omega) hone
      simp only [Nat.add_zero, List.length_map] at hst
      have hb : BytesAt (W.setRow g (cur.toList.take l.length ++ m.map byteV ++ cur.toList.drop (l.length + m.length)).toArray) e (.slice (some ⟨g, 0, none⟩) (l.length + m.length) cap) (l ++ m) := by
        refine Or.inr ⟨g, cap, _, fz, by rw [hll], setRow_heap W g cur _ e _ hh, hfz, by omega, hcm, ?_, ?_⟩
        · simp only [List.size_toArray, List.length_append, List.length_take, List.length_drop, Array.length_toList, List.length_map]
          omega
        · rw [List.toList_toArray, htake, ← List.map_append]
          exact List.take_left' (by simp)
      have hg : W.grownBy (W.setRow g (cur.toList.take l.length ++ m.map byteV ++ cur.toList.drop (l.length + m.length)).toArray) (Value.ownBlock (.slice (some ⟨g, 0, none⟩) l.length cap)) :=
        ⟨rfl, rfl, rfl, by simp, fun k _ hk => setRow_other W g k _ (fun e => hk (by simp [Value.ownBlock, e]))⟩
      rcases hy with ⟨hu, rfl⟩ | ⟨rfl, ad, c, rfl, hcells⟩
      · have hf := Lib.run_firstCells_string (P := P) W 1 ⟨m.toArray⟩
        rw [strCells_byteV] at hf
        refine ⟨_, _, ?_, hb, hg, fun b hb => Or.inl hb⟩
        simp only [hsz] at hf
        simp [Builtin.append_, run_underlying ht, run_underlying hu, sizeOf, typeInfo, hi, hsize, Builtin.lenOf, hsz, hroom, hf, Addr.add_lit, hst]
      · have hf := run_firstCells_some (P := P) W 1 m.length ad m.length c (m.map byteV) (by simp) hcells
        refine ⟨_, _, ?_, hb, hg, fun b hb => Or.inl hb⟩
        simp [Builtin.append_, run_underlying ht, sizeOf, typeInfo, hi, hsize, Builtin.lenOf, hroom, hf, Addr.add_lit, hst]
    · have holds : ∀ j u, (l.map byteV)[j]? = some u → W.cell? ((⟨g, 0, none⟩ : Addr).add j) = some u := fun j u hj => by
        have hjl : j < l.length := by have := (List.getElem?_eq_some_iff.1 hj).1; simpa using this
        rw [addr_add, Nat.zero_add, hown'.cell (g := g) rfl j hjl]
        simp only [List.getElem?_map, List.getElem?_eq_getElem hjl, Option.map_some] at hj
        rw [List.getD_eq_getElem?_getD, List.getElem?_eq_getElem hjl, Option.getD_some]
        exact hj
      have hz1 : (Value.int IntKind.u8 0).cells.size = 1 := rfl
      have hge := grownCap_ge W (l.length + m.length) cap e
      have hcm2 : grownCap W (l.length + m.length) cap e ≤ maxLen := grownCap_le_maxLen W (l.length + m.length) cap e (by rw [hml]; omega)
      have hb : BytesAt (W.drew.alloc (.cells ((l.map byteV).toArray ++ (m.map byteV).toArray ++ Builtin.zeroCells (Value.int IntKind.u8 0).cells (grownCap W (l.length + m.length) cap e - (l.length + m.length))) e)) e
          (.slice (some ⟨W.heap.size, 0, none⟩) (l.length + m.length) (grownCap W (l.length + m.length) cap e)) (l ++ m) := by
        refine Or.inr ⟨W.heap.size, _, _, (0, 0), by rw [hll], heap_alloc_new W.drew _, Or.inl rfl, by omega, hcm2, ?_, ?_⟩
        · simp only [Array.size_append, List.size_toArray, size_zeroCells, hz1, List.length_map]
          omega
        · simp only [Array.toList_append, List.map_append]
          exact List.take_left' (by simp)
      have hg : W.grownBy (W.drew.alloc (.cells ((l.map byteV).toArray ++ (m.map byteV).toArray ++ Builtin.zeroCells (Value.int IntKind.u8 0).cells (grownCap W (l.length + m.length) cap e - (l.length + m.length))) e)) (Value.ownBlock (.slice (some ⟨g, 0, none⟩) l.length cap)) :=
        ⟨rfl, rfl, rfl, by simp, fun k hk _ => heap_alloc_old W.drew _ hk⟩
      have hnew : ∀ b, Value.ownBlock (.slice (some ⟨W.heap.size, 0, none⟩) (l.length + m.length) (grownCap W (l.length + m.length) cap e)) = some b → Value.ownBlock (.slice (some ⟨g, 0, none⟩) l.length cap) = some b ∨ W.heap.size ≤ b := fun b hb => by
        simp [Value.ownBlock] at hb
        right; omega
      rcases hy with ⟨hu, rfl⟩ | ⟨rfl, ad, c, rfl, hcells⟩
      · have hr := Lib.run_append_grow_string (P := P) W tx ty t e i (.int .u8 0) ht hu hi hz ⟨g, 0, none⟩ l.length cap (l.map byteV) (by rw [hsize]; simp) holds ⟨m.toArray⟩ (by rw [hsz]; omega) (by rw [hsz]; omega) (by rw [hby, hsz]; exact growslice_fits (by omega) (by omega))
        rw [strCells_byteV] at hr
        exact ⟨_, _, hr, hb, hg, hnew⟩
      · have hr := run_append_grow (P := P) W ty t e i (.int .u8 0) ht hi hz ⟨g, 0, none⟩ l.length cap (l.map byteV) (by simp [hsize]) holds ad m.length c (m.map byteV) (by simp [hsize]) hcells (by omega) (by omega) (by rw [hby]; exact growslice_fits (by omega) (by omega))
        exact ⟨_, _, hr, hb, hg, hnew⟩

theorem appGo_ok {P : Program} {N : Env} (hA : N.A = .std) {w0 : World} {G : Gs} {ρ : List Pl} {st : St} {a : Act} {W : World} {o : Oper} {hS : List Ent} {Q : Exit → Act → World → Prop} {K : St → Prop} {next : Act → World → Prop}
    (r : Rel w0 G ρ st.h W) (hs : IsS ρ st.t a.tmps.toList) (hd : a.defers = []) (hl : Le hS st.h) (hl2 : hS.length ≤ st.h.length) (hn : Next w0 G ρ hS K next)
    {x y : Operand} {tx ty : TypeId} (ho : o.op = .call { callee := .builtin .append, args := #[x, y], argTypes := #[tx, ty] })
    {e : TypeId} {i : TypeInfo} (ht : P.underlying tx = some (.slice e)) (hi : P.info? e = some i) (hz : i.zero = some (.int .u8 0)) (hsize : i.size = 1) (hby : i.bytes = 1) {m : List UInt8}
    (hy : (P.underlying ty = some .string ∧ a.eval y = .string ⟨m.toArray⟩) ∨ (ty = tx ∧ ∃ ad c, a.eval y = .slice (some ad) m.length c ∧ ∀ j u, (m.map byteV)[j]? = some u → W.cell? (ad.add j) = some u))
    (hK : appGo N hS e (ev st.t x) m o.dst st K) : o.wp P a W next Q := by
  have he : ∀ x, (ev st.t x).is ρ (a.eval x) := ev_is hs
  have hexec : ∀ {v' : Value} {W' : World}, (Builtin.append_ #[tx, ty] o.type #[a.eval x, a.eval y]).run P W = .ok v' W' → (execOp a.eval o).run P W = .ok (.value v') W' := fun {v' W'} h => by
    simp only [execOp, ho, resolve, invoke, builtin, Sem.run_bind, Sem.run_pure, Result.andThen_ok, List.map_toArray, List.map_cons, List.map_nil, h]
  rw [show appGo N hS e (ev st.t x) m o.dst st K = appGo N hS e (ev st.t x) m o.dst st K from rfl] at hK
  unfold appGo at hK
  rw [hA] at hK
  split at hK
  · rename_i k hx
    split at hK
    · rename_i e' l hk
      split at hK
      · rename_i hb
        simp only [Bool.and_eq_true, Nat.beq_eq] at hb
        obtain ⟨hb1, hb2⟩ := hb
        subst hb1
        have hx' := he x
        rw [hx] at hx'
        obtain ⟨p, hp, hu⟩ := den_row hx'
        have hok := r.ok k _ p hk hp
        obtain ⟨v', W', h1, h2, h3, h4⟩ := run_append_bytes (t := o.type) ht hi hz hsize hby hok.1 hK.pre hy
        unfold Oper.wp
        rw [hexec (by rw [hu]; exact h1), Oper.upon_value]
        have hgr := r.grow hk hp rfl rfl (e := e) (l := l ++ m) h2 h3 h4
        refine hn [plB v'] _ _ _ hgr (put_is (hs.app_ρ _) ?_) (by rw [put_defers]; exact hd) ?_ (by simp; omega) (hK.rest hK.pre)
        · show CV.den _ _ = _
          simp only [CV.den]
          rw [← r.len, List.getElem?_append_right (Nat.le_refl _)]
          have h1 : one v' = true := h2.one
          simp [h1, plB]
        · intro j e he'
          by_cases hj : j = k
          · subst hj; exact Or.inl (maskedAt_spec hb2 he')
          · rcases hl j e he' with h5 | h5
            · exact Or.inl h5
            · right
              rw [List.getElem?_append_left (by rw [List.length_set]; exact (List.getElem?_eq_some_iff.1 h5).1), List.getElem?_set_ne (fun e => hj e.symm)]; exact h5
      · exact hK.elim
    · exact hK.elim
  · rename_i hx
    have hx' := he x
    rw [hx] at hx'
    have hu : a.eval x = .slice none 0 0 := (Option.some.inj hx').symm
    obtain ⟨v', W', h1, h2, h3, h4⟩ := run_append_bytes (t := o.type) (l := []) ht hi hz hsize hby (BytesAt.nil W e) hK.pre hy
    unfold Oper.wp
    rw [hexec (by rw [hu]; exact h1), Oper.upon_value]
    have hgr := r.born (e := e) (l := [] ++ m) h2 h3 (fun b hb => (h4 b hb).resolve_left (by simp [Value.ownBlock]))
    refine hn [plB v'] _ _ _ hgr (put_is (hs.app_ρ _) ?_) (by rw [put_defers]; exact hd) (hl.append _) (by simp; omega) (hK.rest hK.pre)
    show CV.den _ _ = _
    simp only [CV.den]
    rw [← r.len, List.getElem?_append_right (Nat.le_refl _)]
    have h1 : one v' = true := h2.one
    simp [h1, plB]
  · exact hK.elim

/-- What append of one struct comes to. -/
theorem run_append_one {P : Program} {W : World} {tx t e : TypeId} {i : TypeInfo} {z : Value} {size bytes : Nat} (ht : P.underlying tx = some (.slice e)) (hi : P.info? e = some i) (hz : i.zero = some z) (hsize : i.size = size) (hby : i.bytes = bytes) (hzs : z.cells.size = size) (hsz : 0 < size)
    {v : Value} {n : Nat} {vs : List Value} (hown : W.ownsRow 0 e size v n vs) (hlen : n + 1 ≤ maxLen ∧ (n + 1) * bytes ≤ 140737488355328)
    {ad : Addr} {c : Nat} {us : List Value} (hl : us.length = size) (hcells : ∀ j u, us[j]? = some u → W.cell? (ad.add j) = some u) (hone : ∀ u ∈ us, u.oneCell' = true) :
    ∃ v' W', (Builtin.append_ #[tx, tx] t #[v, .slice (some ad) 1 c]).run P W = .ok v' W' ∧ W'.ownsRow 0 e size v' (n + 1) (vs ++ us) ∧ W.grownBy W' v.ownBlock ∧ (∀ b, v'.ownBlock = some b → v.ownBlock = some b ∨ W.heap.size ≤ b) := by
  have hml : maxLen = 9223372036854775807 := rfl
  obtain ⟨v', W', h1, h2, h3, h4⟩ := run_append_own (P := P) W 0 tx t e i z size bytes ht hi hz hsize hby hzs hsz v n vs hown ad 1 c us (by rw [hl]; omega) hcells hone hlen.1 hlen.2 (Nat.zero_le _)
  refine ⟨v', W', h1, h2, h3, fun b hb => ?_⟩
  rcases hown.2 with ⟨hv, hn⟩ | ⟨g, cap, cur, hv, hb0, hh, hnc, hcm, hcs, htake⟩
  · subst hv
    subst hn
    right
    have hvs : vs = [] := List.eq_nil_of_length_eq_zero (by simpa using hown.1)
    subst hvs
    obtain ⟨v2, W2, k1, k2, _, _⟩ := run_append_own (P := P) W W.heap.size tx t e i z size bytes ht hi hz hsize hby hzs hsz _ 0 [] (World.ownsRow_nil W _ e size) ad 1 c us (by rw [hl]; omega) hcells hone hlen.1 hlen.2 (Nat.le_refl _)
    rw [h1] at k1
    injection k1 with e1 e2
    subst e1
    exact (World.ownsRow.lt k2 b hb).1
  · subst hv
    by_cases hroom : n + 1 ≤ cap
    · have hr := run_append_room (P := P) W tx t e i ht hi g n cap cur hh ad 1 c us (by rw [hl, hsize]; omega) hcells hone hroom (by
        rw [hl, hsize, hcs]
        have := Nat.mul_le_mul_right size hroom
        rw [Nat.add_mul, Nat.one_mul] at this
        exact this)
      rw [h1] at hr
      injection hr with e1 e2
      subst e1
      exact Or.inl hb
    · have holds : ∀ j u, vs[j]? = some u → W.cell? ((⟨g, 0, none⟩ : Addr).add j) = some u := hown.cells (g := g) rfl
      have hr := run_append_grow (P := P) W tx t e i z ht hi hz ⟨g, 0, none⟩ n cap vs (by rw [hown.1, hsize]) holds ad 1 c us (by rw [hl, hsize]; omega) hcells (by omega) (by omega) (by rw [hby]; exact growslice_fits (by omega) hlen.2)
      rw [h1] at hr
      injection hr with e1 e2
      subst e1
      simp [Value.ownBlock] at hb
      right; omega

theorem pushG_lt {n : Nat} {get : Nat → List CV} {cs : List CV} {i : Nat} (h : i < n) : pushG n get cs i = get i := by
  unfold pushG
  rw [show Nat.blt i n = true by rw [Nat.blt_eq]; exact h]
theorem pushG_eq {n : Nat} {get : Nat → List CV} {cs : List CV} : pushG n get cs n = cs := by
  unfold pushG
  rw [show Nat.blt n n = false by rw [Bool.eq_false_iff, ne_eq, Nat.blt_eq]; omega]

/-- One more element stands in the row. -/
theorem row_push {W' : World} {e : TypeId} {sz n : Nat} {get : Nat → List CV} {cs : List CV} {v' : Value} {vs us : List Value} (hvl : vs.length = n * sz) (hg : ∀ i, i < n → IsL [] (get i) ((vs.drop (i * sz)).take sz)) (hc : IsL [] cs us) (hul : us.length = sz)
    (h2 : W'.ownsRow 0 e sz v' (n + 1) (vs ++ us)) (ρ : List Pl) : Ent.ok ρ ⟨v'.ownBlock.getD 0, v', 0⟩ W' (.row e sz (n + 1) (pushG n get cs)) := by
  refine ⟨vs ++ us, ⟨fun i hi => ?_, rfl, fun g hg' => ?_⟩, h2⟩
  · rcases Nat.lt_or_ge i n with hlt | hge
    · rw [pushG_lt hlt]
      have hle : i * sz + sz ≤ vs.length := by
        rw [hvl]
        have := Nat.mul_le_mul_right sz (show i + 1 ≤ n by omega)
        rw [Nat.add_mul, Nat.one_mul] at this
        exact this
      rw [List.drop_append_of_le_length (by omega), List.take_append_of_le_length (by rw [List.length_drop]; omega)]
      exact hg i hlt
    · have : i = n := by omega
      subst this
      rw [pushG_eq, ← hvl, List.drop_left, ← hul, List.take_length]
      exact hc
  · show g = v'.ownBlock.getD 0
    have hg' : v'.ownBlock = some g := hg'
    rw [hg']; rfl

theorem appS_ok {P : Program} {N : Env} (hA : N.A = .std) {w0 : World} {G : Gs} {ρ : List Pl} {st : St} {a : Act} {W : World} {o : Oper} {hS : List Ent} {Q : Exit → Act → World → Prop} {K : St → Prop} {next : Act → World → Prop}
    (r : Rel w0 G ρ st.h W) (hs : IsS ρ st.t a.tmps.toList) (hd : a.defers = []) (hl : Le hS st.h) (hl2 : hS.length ≤ st.h.length) (hn : Next w0 G ρ hS K next)
    {x y : Operand} {tx : TypeId} (ho : o.op = .call { callee := .builtin .append, args := #[x, y], argTypes := #[tx, tx] })
    {e : TypeId} {i : TypeInfo} {z : Value} {size bytes : Nat} (ht : P.underlying tx = some (.slice e)) (hi : P.info? e = some i) (hz : i.zero = some z) (hsize : i.size = size) (hby : i.bytes = bytes) (hzs : z.cells.size = size) (hsz : 0 < size)
    {ad : Addr} {c : Nat} {cs : List CV} {us : List Value} (hy : a.eval y = .slice (some ad) 1 c) (hus : us.length = size) (hcs : IsL [] cs us) (hcells : ∀ j u, us[j]? = some u → W.cell? (ad.add j) = some u)
    (hK : appS N hS e size bytes (ev st.t x) cs o.dst st K) : o.wp P a W next Q := by
  have he : ∀ x, (ev st.t x).is ρ (a.eval x) := ev_is hs
  have hexec : ∀ {v' : Value} {W' : World}, (Builtin.append_ #[tx, tx] o.type #[a.eval x, a.eval y]).run P W = .ok v' W' → (execOp a.eval o).run P W = .ok (.value v') W' := fun {v' W'} h => by
    simp only [execOp, ho, resolve, invoke, builtin, Sem.run_bind, Sem.run_pure, Result.andThen_ok, List.map_toArray, List.map_cons, List.map_nil, h]
  have hone : ∀ u ∈ us, u.oneCell' = true := fun v hv => by
    obtain ⟨j, hj, hjv⟩ := List.mem_iff_getElem.1 hv
    obtain ⟨c, _, hc⟩ := hcs.getr (i := j) (u := v) (by rw [List.getElem?_eq_getElem hj, hjv])
    have := CV.den_oneCell hc
    cases v <;> first | rfl | cases this
  have hden : ∀ {ρ' : List Pl} {k : Nat} {v' : Value} {q : Pl}, k = ρ'.length → q.v = v' → (∃ n vs W', World.ownsRow W' 0 e size v' n vs) → (CV.row k).den (ρ' ++ [q]) = some v' := fun {ρ' k v' q} hk hq hw => by
    subst hk hq
    obtain ⟨n, vs, W', hw⟩ := hw
    simp only [CV.den]
    rw [List.getElem?_append_right (Nat.le_refl _)]
    have h1 : one q.v = true := by
      rcases hw.2 with ⟨hv, _⟩ | ⟨g, cap, cur, hv, _⟩ <;> rw [hv] <;> rfl
    simp [h1]
  unfold appS at hK
  rw [hA] at hK
  split at hK
  · rename_i k hx
    split at hK
    · rename_i e' sz' n get hk
      split at hK
      · rename_i hb
        simp only [Bool.and_eq_true, Nat.beq_eq] at hb
        obtain ⟨⟨hb1, hb3⟩, hb2⟩ := hb
        subst hb1
        subst hb3
        have hx' := he x
        rw [hx] at hx'
        obtain ⟨p, hp, hu⟩ := den_row hx'
        obtain ⟨vs, ⟨g1, g2, g3⟩, hok⟩ := r.ok k _ p hk hp
        obtain ⟨v', W', h1, h2, h3, h4⟩ := run_append_one (t := o.type) ht hi hz hsize hby hzs hsz hok hK.pre hus hcells hone
        unfold Oper.wp
        rw [hexec (by rw [hu, hy]; exact h1), Oper.upon_value]
        have hgr := r.growE (en := .row e size (n + 1) (pushG n get cs)) (q0 := ⟨v'.ownBlock.getD 0, v', 0⟩) hk hp rfl rfl (row_push hok.1 g1 hcs hus h2 _) rfl (fun b hb => (World.ownsRow.lt h2 b hb).2) h3 h4
        refine hn [⟨v'.ownBlock.getD 0, v', 0⟩] _ _ _ hgr (put_is (hs.app_ρ _) (v := .c (.row st.h.length)) (u := v') (hden r.len.symm rfl ⟨_, _, _, h2⟩)) (by rw [put_defers]; exact hd) ?_ (by simp; omega) (hK.rest hK.pre)
        intro j e he'
        by_cases hj : j = k
        · subst hj; exact Or.inl (maskedAt_spec hb2 he')
        · rcases hl j e he' with h5 | h5
          · exact Or.inl h5
          · right
            rw [List.getElem?_append_left (by rw [List.length_set]; exact (List.getElem?_eq_some_iff.1 h5).1), List.getElem?_set_ne (fun e => hj e.symm)]; exact h5
      · exact hK.elim
    · exact hK.elim
  · rename_i hx
    have hx' := he x
    rw [hx] at hx'
    have hu : a.eval x = .slice none 0 0 := (Option.some.inj hx').symm
    obtain ⟨v', W', h1, h2, h3, h4⟩ := run_append_one (t := o.type) (vs := []) ht hi hz hsize hby hzs hsz (World.ownsRow_nil W 0 e size) hK.pre hus hcells hone
    unfold Oper.wp
    rw [hexec (by rw [hu, hy]; exact h1), Oper.upon_value]
    have hgr := r.bornE (en := .row e size 1 (pushG 0 (fun _ => []) cs)) (q0 := ⟨v'.ownBlock.getD 0, v', 0⟩) (row_push (by simp) (fun i hi => by omega) hcs hus h2 _) rfl (fun b hb => (World.ownsRow.lt h2 b hb).2) h3 (fun b hb => (h4 b hb).resolve_left (by simp [Value.ownBlock]))
    exact hn [⟨v'.ownBlock.getD 0, v', 0⟩] _ _ _ hgr (put_is (hs.app_ρ _) (v := .c (.row st.h.length)) (u := v') (hden r.len.symm rfl ⟨_, _, _, h2⟩)) (by rw [put_defers]; exact hd) (hl.append _) (by simp; omega) (hK.rest hK.pre)
  · exact hK.elim

/-! ### Elements behind elements -/
def flatN (f : Nat → List Value) : Nat → List Value
  | 0 => []
  | m + 1 => flatN f m ++ f m
theorem flatN_len {f : Nat → List Value} {sz : Nat} : ∀ (m : Nat), (∀ i, i < m → (f i).length = sz) → (flatN f m).length = m * sz
  | 0, _ => by simp [flatN]
  | m + 1, h => by
    rw [flatN, List.length_append, flatN_len m (fun i hi => h i (by omega)), h m (by omega), Nat.add_mul, Nat.one_mul]
theorem flatN_chunk {f : Nat → List Value} {sz : Nat} : ∀ (m : Nat), (∀ i, i < m → (f i).length = sz) → ∀ i, i < m → ((flatN f m).drop (i * sz)).take sz = f i
  | 0, _, i, hi => by omega
  | m + 1, h, i, hi => by
    have hl := flatN_len m (fun i hi => h i (Nat.lt_succ_of_lt hi))
    rw [flatN]
    rcases Nat.lt_or_ge i m with hlt | hge
    · have h2 := Nat.mul_le_mul_right sz (show i + 1 ≤ m from hlt)
      rw [Nat.add_mul, Nat.one_mul] at h2
      rw [List.drop_append_of_le_length (by omega), List.take_append_of_le_length (by rw [List.length_drop]; omega)]
      exact flatN_chunk m (fun i hi => h i (Nat.lt_succ_of_lt hi)) i hlt
    · have : i = m := by omega
      subst this
      rw [← hl, List.drop_left, ← h i (by omega), List.take_length]
theorem flatN_get {f : Nat → List Value} {sz : Nat} : ∀ (m : Nat), (∀ i, i < m → (f i).length = sz) → ∀ j u, (flatN f m)[j]? = some u → ∃ i r, i < m ∧ j = i * sz + r ∧ (f i)[r]? = some u
  | 0, _, j, u, hu => by simp [flatN] at hu
  | m + 1, h, j, u, hu => by
    have hl := flatN_len m (fun i hi => h i (Nat.lt_succ_of_lt hi))
    rw [flatN] at hu
    rcases Nat.lt_or_ge j (flatN f m).length with hlt | hge
    · rw [List.getElem?_append_left hlt] at hu
      obtain ⟨i, r, h1, h2, h3⟩ := flatN_get m (fun i hi => h i (Nat.lt_succ_of_lt hi)) j u hu
      exact ⟨i, r, by omega, h2, h3⟩
    · rw [List.getElem?_append_right hge] at hu
      exact ⟨m, j - (flatN f m).length, by omega, by omega, hu⟩

/-- What append of many elements comes to. -/
theorem run_append_many {P : Program} {W : World} {tx t e : TypeId} {i : TypeInfo} {z : Value} {size bytes : Nat} (ht : P.underlying tx = some (.slice e)) (hi : P.info? e = some i) (hz : i.zero = some z) (hsize : i.size = size) (hby : i.bytes = bytes) (hzs : z.cells.size = size) (hsz : 0 < size)
    {v : Value} {n : Nat} {vs : List Value} (hown : W.ownsRow 0 e size v n vs) {m : Nat} (hlen : n + m ≤ maxLen ∧ (n + m) * bytes ≤ 140737488355328)
    {ad : Option Addr} {c : Nat} {us : List Value} (h0 : ad = none → m = 0) (hl : us.length = m * size) (hcells : ∀ a, ad = some a → ∀ j u, us[j]? = some u → W.cell? (a.add j) = some u) (hone : ∀ u ∈ us, u.oneCell' = true) :
    ∃ v' W', (Builtin.append_ #[tx, tx] t #[v, .slice ad m c]).run P W = .ok v' W' ∧ W'.ownsRow 0 e size v' (n + m) (vs ++ us) ∧ W.grownBy W' v.ownBlock ∧ (∀ b, v'.ownBlock = some b → v.ownBlock = some b ∨ W.heap.size ≤ b) := by
  have hml : maxLen = 9223372036854775807 := rfl
  cases ad with
  | none =>
    have hm := h0 rfl
    subst hm
    have hus : us = [] := List.eq_nil_of_length_eq_zero (by simpa using hl)
    subst hus
    refine ⟨v, W, ?_, by simpa using hown, ⟨rfl, rfl, rfl, Nat.le_refl _, fun _ _ _ => rfl⟩, fun b hb => Or.inl hb⟩
    rcases hown.2 with ⟨hv, hn⟩ | ⟨g, cap, cur, hv, hb0, hh, hnc, hcm, hcs, htake⟩
    · subst hv
      simp [Builtin.append_, run_underlying ht, sizeOf, typeInfo, hi, Builtin.lenOf, Builtin.firstCells]
    · subst hv
      simp [Builtin.append_, run_underlying ht, sizeOf, typeInfo, hi, Builtin.lenOf, Builtin.firstCells, hnc, storeCells]
  | some ad =>
    have hcells := hcells ad rfl
    obtain ⟨v', W', h1, h2, h3, h4⟩ := run_append_own (P := P) W 0 tx t e i z size bytes ht hi hz hsize hby hzs hsz v n vs hown ad m c us hl hcells hone hlen.1 hlen.2 (Nat.zero_le _)
    refine ⟨v', W', h1, h2, h3, fun b hb => ?_⟩
    rcases hown.2 with ⟨hv, hn⟩ | ⟨g, cap, cur, hv, hb0, hh, hnc, hcm, hcs, htake⟩
    · subst hv
      subst hn
      right
      have hvs : vs = [] := List.eq_nil_of_length_eq_zero (by simpa using hown.1)
      subst hvs
      obtain ⟨v2, W2, k1, k2, _, _⟩ := run_append_own (P := P) W W.heap.size tx t e i z size bytes ht hi hz hsize hby hzs hsz _ 0 [] (World.ownsRow_nil W _ e size) ad m c us hl hcells hone hlen.1 hlen.2 (Nat.le_refl _)
      rw [h1] at k1
      injection k1 with e1 e2
      subst e1
      exact (World.ownsRow.lt k2 b hb).1
    · subst hv
      by_cases hroom : n + m ≤ cap
      · have hr := run_append_room (P := P) W tx t e i ht hi g n cap cur hh ad m c us (by rw [hl, hsize]) hcells hone hroom (by
          rw [hl, hsize, hcs]
          have := Nat.mul_le_mul_right size hroom
          rw [Nat.add_mul] at this
          exact this)
        rw [h1] at hr
        injection hr with e1 e2
        subst e1
        exact Or.inl hb
      · have holds : ∀ j u, vs[j]? = some u → W.cell? ((⟨g, 0, none⟩ : Addr).add j) = some u := hown.cells (g := g) rfl
        have hr := run_append_grow (P := P) W tx t e i z ht hi hz ⟨g, 0, none⟩ n cap vs (by rw [hown.1, hsize]) holds ad m c us (by rw [hl, hsize]) hcells (by omega) (by omega) (by rw [hby]; exact growslice_fits (by omega) hlen.2)
        rw [h1] at hr
        injection hr with e1 e2
        subst e1
        simp [Value.ownBlock] at hb
        right; omega

theorem catG_lt {n : Nat} {get get2 : Nat → List CV} {i : Nat} (h : i < n) : catG n get get2 i = get i := by
  unfold catG
  rw [show Nat.blt i n = true by rw [Nat.blt_eq]; exact h]
theorem catG_ge {n : Nat} {get get2 : Nat → List CV} {i : Nat} (h : n ≤ i) : catG n get get2 i = get2 (i - n) := by
  unfold catG
  rw [show Nat.blt i n = false by rw [Bool.eq_false_iff, ne_eq, Nat.blt_eq]; omega]

theorem row_cat {W' : World} {e : TypeId} {sz n m : Nat} {get get2 : Nat → List CV} {v' : Value} {vs : List Value} {f : Nat → List Value} (hvl : vs.length = n * sz) (hg : ∀ i, i < n → IsL [] (get i) ((vs.drop (i * sz)).take sz)) (hf : ∀ i, i < m → IsL [] (get2 i) (f i)) (hfl : ∀ i, i < m → (f i).length = sz)
    (h2 : W'.ownsRow 0 e sz v' (n + m) (vs ++ flatN f m)) (ρ : List Pl) : Ent.ok ρ ⟨v'.ownBlock.getD 0, v', 0⟩ W' (.row e sz (n + m) (catG n get get2)) := by
  refine ⟨vs ++ flatN f m, ⟨fun i hi => ?_, rfl, fun g hg' => ?_⟩, h2⟩
  · rcases Nat.lt_or_ge i n with hlt | hge
    · rw [catG_lt hlt]
      have hle : i * sz + sz ≤ vs.length := by
        rw [hvl]
        have := Nat.mul_le_mul_right sz (show i + 1 ≤ n by omega)
        rw [Nat.add_mul, Nat.one_mul] at this
        exact this
      rw [List.drop_append_of_le_length (by omega), List.take_append_of_le_length (by rw [List.length_drop]; omega)]
      exact hg i hlt
    · rw [catG_ge hge]
      have e1 : i * sz = vs.length + (i - n) * sz := by
        rw [hvl, ← Nat.add_mul]
        congr 1
        omega
      rw [e1, List.drop_length_add_append, flatN_chunk m hfl (i - n) (by omega)]
      exact hf (i - n) (by omega)
  · show g = v'.ownBlock.getD 0
    have hg' : v'.ownBlock = some g := hg'
    rw [hg']; rfl

theorem appV_ok {P : Program} {N : Env} (hA : N.A = .std) {w0 : World} {G : Gs} {ρ : List Pl} {st : St} {a : Act} {W : World} {o : Oper} {hS : List Ent} {Q : Exit → Act → World → Prop} {K : St → Prop} {next : Act → World → Prop}
    (r : Rel w0 G ρ st.h W) (hs : IsS ρ st.t a.tmps.toList) (hd : a.defers = []) (hl : Le hS st.h) (hl2 : hS.length ≤ st.h.length) (hn : Next w0 G ρ hS K next)
    {x y : Operand} {tx : TypeId} (ho : o.op = .call { callee := .builtin .append, args := #[x, y], argTypes := #[tx, tx] })
    {e : TypeId} {i : TypeInfo} {z : Value} {size bytes : Nat} (ht : P.underlying tx = some (.slice e)) (hi : P.info? e = some i) (hz : i.zero = some z) (hsize : i.size = size) (hby : i.bytes = bytes) (hzs : z.cells.size = size) (hsz : 0 < size)
    {m : Nat} {get2 : Nat → List CV} {q : Pl} {ad : Option Addr} {c : Nat} (hy : a.eval y = .slice ad m c) (had : 0 < m → ad = some ⟨q.b, q.o, none⟩)
    (hget : ∀ i, i < m → ∃ vs, IsL [] (get2 i) vs ∧ ∀ j v, vs[j]? = some v → W.cell? ⟨q.b, q.o + i * size + j, none⟩ = some v)
    (hK : appV N hS e size bytes (ev st.t x) m get2 o.dst st K) : o.wp P a W next Q := by
  have he : ∀ x, (ev st.t x).is ρ (a.eval x) := ev_is hs
  have hexec : ∀ {v' : Value} {W' : World}, (Builtin.append_ #[tx, tx] o.type #[a.eval x, a.eval y]).run P W = .ok v' W' → (execOp a.eval o).run P W = .ok (.value v') W' := fun {v' W'} h => by
    simp only [execOp, ho, resolve, invoke, builtin, Sem.run_bind, Sem.run_pure, Result.andThen_ok, List.map_toArray, List.map_cons, List.map_nil, h]
  obtain ⟨f, hf⟩ : ∃ f : Nat → List Value, ∀ i, i < m → IsL [] (get2 i) (f i) ∧ ∀ j v, (f i)[j]? = some v → W.cell? ⟨q.b, q.o + i * size + j, none⟩ = some v := by
    refine ⟨fun i => if h : i < m then Classical.choose (hget i h) else [], fun i h => ?_⟩
    dsimp only
    rw [dif_pos h]
    exact Classical.choose_spec (hget i h)
  have hden : ∀ {ρ' : List Pl} {k : Nat} {v' : Value} {q : Pl}, k = ρ'.length → q.v = v' → (∃ n vs W', World.ownsRow W' 0 e size v' n vs) → (CV.row k).den (ρ' ++ [q]) = some v' := fun {ρ' k v' q} hk hq hw => by
    subst hk hq
    obtain ⟨n, vs, W', hw⟩ := hw
    simp only [CV.den]
    rw [List.getElem?_append_right (Nat.le_refl _)]
    have h1 : one q.v = true := by
      rcases hw.2 with ⟨hv, _⟩ | ⟨g, cap, cur, hv, _⟩ <;> rw [hv] <;> rfl
    simp [h1]
  have hmany : (∀ i, i < m → (get2 i).length = size) → (∀ i, i < m → (f i).length = size) ∧ (ad = none → m = 0) ∧ (flatN f m).length = m * size ∧ (∀ a, ad = some a → ∀ j u, (flatN f m)[j]? = some u → W.cell? (a.add j) = some u) ∧ (∀ u ∈ flatN f m, u.oneCell' = true) := fun hlen => by
    have hfl : ∀ i, i < m → (f i).length = size := fun i hi => by rw [← (hf i hi).1.len]; exact hlen i hi
    refine ⟨hfl, fun h0 => ?_, flatN_len m hfl, fun a ha j u hu => ?_, fun u hu => ?_⟩
    · rcases Nat.eq_zero_or_pos m with h | h
      · exact h
      · rw [had h] at h0; cases h0
    · obtain ⟨i, r, h1, h2, h3⟩ := flatN_get m hfl j u hu
      have ha2 := had (by omega)
      rw [ha] at ha2
      obtain rfl := Option.some.inj ha2
      have := (hf i h1).2 r u h3
      rw [Addr.add_mid, h2, ← Nat.add_assoc]
      exact this
    · obtain ⟨j, hj, hjv⟩ := List.mem_iff_getElem.1 hu
      obtain ⟨i, r, h1, h2, h3⟩ := flatN_get m hfl j u (by rw [List.getElem?_eq_getElem hj, hjv])
      obtain ⟨c, _, hc⟩ := (hf i h1).1.getr h3
      have := CV.den_oneCell hc
      cases u <;> first | rfl | cases this
  unfold appV at hK
  rw [hA] at hK
  split at hK
  · rename_i k hx
    split at hK
    · rename_i e' sz' n get hk
      split at hK
      · rename_i hb
        simp only [Bool.and_eq_true, Nat.beq_eq] at hb
        obtain ⟨⟨hb1, hb3⟩, hb2⟩ := hb
        subst hb1
        subst hb3
        have hx' := he x
        rw [hx] at hx'
        obtain ⟨p, hp, hu⟩ := den_row hx'
        obtain ⟨vs, ⟨g1, g2, g3⟩, hok⟩ := r.ok k _ p hk hp
        obtain ⟨m1, m2, m3, m4, m5⟩ := hmany hK.pre.2
        obtain ⟨v', W', h1, h2, h3, h4⟩ := run_append_many (t := o.type) (c := c) ht hi hz hsize hby hzs hsz hok hK.pre.1 m2 m3 m4 m5
        unfold Oper.wp
        rw [hexec (by rw [hu, hy]; exact h1), Oper.upon_value]
        have hgr := r.growE (en := .row e size (n + m) (catG n get get2)) (q0 := ⟨v'.ownBlock.getD 0, v', 0⟩) hk hp rfl rfl (row_cat hok.1 g1 (fun i hi => (hf i hi).1) m1 h2 _) rfl (fun b hb => (World.ownsRow.lt h2 b hb).2) h3 h4
        refine hn [⟨v'.ownBlock.getD 0, v', 0⟩] _ _ _ hgr (put_is (hs.app_ρ _) (v := .c (.row st.h.length)) (u := v') (hden r.len.symm rfl ⟨_, _, _, h2⟩)) (by rw [put_defers]; exact hd) ?_ (by simp; omega) (hK.rest hK.pre)
        intro j e he'
        by_cases hj : j = k
        · subst hj; exact Or.inl (maskedAt_spec hb2 he')
        · rcases hl j e he' with h5 | h5
          · exact Or.inl h5
          · right
            rw [List.getElem?_append_left (by rw [List.length_set]; exact (List.getElem?_eq_some_iff.1 h5).1), List.getElem?_set_ne (fun e => hj e.symm)]; exact h5
      · exact hK.elim
    · exact hK.elim
  · rename_i hx
    have hx' := he x
    rw [hx] at hx'
    have hu : a.eval x = .slice none 0 0 := (Option.some.inj hx').symm
    obtain ⟨m1, m2, m3, m4, m5⟩ := hmany hK.pre.2
    obtain ⟨v', W', h1, h2, h3, h4⟩ := run_append_many (t := o.type) (c := c) (vs := []) ht hi hz hsize hby hzs hsz (World.ownsRow_nil W 0 e size) hK.pre.1 m2 m3 m4 m5
    unfold Oper.wp
    rw [hexec (by rw [hu, hy]; exact h1), Oper.upon_value]
    have hrow := row_cat (get := fun _ => []) (get2 := get2) (by simp) (fun i hi => by omega) (fun i hi => (hf i hi).1) m1 h2 (ρ ++ [⟨v'.ownBlock.getD 0, v', 0⟩])
    have hrow2 : Ent.ok (ρ ++ [⟨v'.ownBlock.getD 0, v', 0⟩]) ⟨v'.ownBlock.getD 0, v', 0⟩ W' (.row e size m get2) := by
      obtain ⟨ws, ⟨k1, k2, k3⟩, k4⟩ := hrow
      refine ⟨ws, ⟨fun i hi => ?_, k2, k3⟩, by rw [Nat.zero_add] at k4; exact k4⟩
      have := k1 i (by omega)
      rw [catG_ge (Nat.zero_le _)] at this
      exact this
    have hgr := r.bornE (en := .row e size m get2) (q0 := ⟨v'.ownBlock.getD 0, v', 0⟩) hrow2 rfl (fun b hb => (World.ownsRow.lt h2 b hb).2) h3 (fun b hb => (h4 b hb).resolve_left (by simp [Value.ownBlock]))
    exact hn [⟨v'.ownBlock.getD 0, v', 0⟩] _ _ _ hgr (put_is (hs.app_ρ _) (v := .c (.row st.h.length)) (u := v') (hden r.len.symm rfl ⟨_, _, _, h2⟩)) (by rw [put_defers]; exact hd) (hl.append _) (by simp; omega) (hK.rest hK.pre)
  · rename_i k lo n0 sz0 hx
    split at hK
    · rename_i e' sz' n get hk
      split at hK
      · rename_i hb
        simp only [Bool.and_eq_true, Nat.beq_eq] at hb
        obtain ⟨⟨⟨hb1, hb3⟩, hb4⟩, hb2⟩ := hb
        subst hb1
        subst hb3
        have hx' := he x
        rw [hx] at hx'
        obtain ⟨p, aa, mm, cap, hp, hpv, hmm, hu⟩ := den_vsl hx'
        have hlo : lo = 0 := hK.pre.1
        subst hlo
        obtain ⟨vs, ⟨g1, g2, g3⟩, hok⟩ := r.ok k _ p hk hp
        obtain ⟨hown, hblk, hlen⟩ : W.ownsRow 0 e size (a.eval x) n0 (vs.take (n0 * size)) ∧ (a.eval x).ownBlock = p.v.ownBlock ∧ n0 ≤ n := by
          rcases hok.2 with ⟨h1, h2⟩ | ⟨g, cap', cur, h1, h2, h3, h4, h5, h6, h7⟩
          · rw [hpv] at h1
            cases h1
            have h0 : n0 = 0 := by omega
            subst h0
            rw [hu, hpv]
            exact ⟨⟨by simp, Or.inl ⟨rfl, rfl⟩⟩, rfl, by omega⟩
          · rw [hpv] at h1
            cases h1
            have hle : n0 ≤ n := by omega
            have e1 : a.eval x = .slice (some ⟨g, 0, none⟩) n0 cap := by
              rw [hu]
              simp only [Option.map_some, addr_add, Nat.zero_mul, Nat.add_zero, Nat.sub_zero, ite_self]
            rw [e1, hpv]
            have hmul := Nat.mul_le_mul_right size hle
            refine ⟨⟨?_, Or.inr ⟨g, cap, cur, rfl, h2, h3, by omega, h5, h6, ?_⟩⟩, rfl, hle⟩
            · rw [List.length_take, hok.1]; omega
            · rw [← h7, List.take_take, Nat.min_eq_left hmul]
        obtain ⟨m1, m2, m3, m4, m5⟩ := hmany hK.pre.2.2
        obtain ⟨v', W', h1, h2, h3, h4⟩ := run_append_many (t := o.type) (c := c) ht hi hz hsize hby hzs hsz hown hK.pre.2.1 m2 m3 m4 m5
        unfold Oper.wp
        rw [hexec (by rw [hy]; exact h1), Oper.upon_value]
        rw [hblk] at h3 h4
        have hgr := r.growE (en := .row e size (n0 + m) (catG n0 get get2)) (q0 := ⟨v'.ownBlock.getD 0, v', 0⟩) hk hp rfl rfl (row_cat hown.1 (fun i hi => by
          have := g1 i (by omega)
          have hmul := Nat.mul_le_mul_right size (show i + 1 ≤ n0 by omega)
          rw [Nat.add_mul, Nat.one_mul] at hmul
          rw [List.drop_take, List.take_take, Nat.min_eq_left (by omega)]
          exact this) (fun i hi => (hf i hi).1) m1 h2 _) rfl (fun b hb => (World.ownsRow.lt h2 b hb).2) h3 h4
        refine hn [⟨v'.ownBlock.getD 0, v', 0⟩] _ _ _ hgr (put_is (hs.app_ρ _) (v := .c (.row st.h.length)) (u := v') (hden r.len.symm rfl ⟨_, _, _, h2⟩)) (by rw [put_defers]; exact hd) ?_ (by simp; omega) (hK.rest hK.pre)
        intro j e he'
        by_cases hj : j = k
        · subst hj; exact Or.inl (maskedAt_spec hb2 he')
        · rcases hl j e he' with h5 | h5
          · exact Or.inl h5
          · right
            rw [List.getElem?_append_left (by rw [List.length_set]; exact (List.getElem?_eq_some_iff.1 h5).1), List.getElem?_set_ne (fun e => hj e.symm)]; exact h5
      · exact hK.elim
    · exact hK.elim
  · exact hK.elim

theorem appK_ok {P : Program} {N : Env} (hA : N.A = .std) (hE : N.E.Ok P) {w0 : World} {G : Gs} {ρ : List Pl} {st : St} {a : Act} {W : World} {o : Oper} {hS : List Ent} {Q : Exit → Act → World → Prop} {K : St → Prop} {next : Act → World → Prop}
    (r : Rel w0 G ρ st.h W) (hs : IsS ρ st.t a.tmps.toList) (hd : a.defers = []) (hl : Le hS st.h) (hl2 : hS.length ≤ st.h.length) (hn : Next w0 G ρ hS K next)
    {x y : Operand} {tx ty : TypeId} (ho : o.op = .call { callee := .builtin .append, args := #[x, y], argTypes := #[tx, ty] })
    (hK : appK N hS tx ty (ev st.t x) (ev st.t y) o.dst st K) : o.wp P a W next Q := by
  have he : ∀ x, (ev st.t x).is ρ (a.eval x) := ev_is hs
  unfold appK at hK
  split at hK
  · rename_i ti hti
    split at hK
    · rename_i e hkd
      split at hK
      · rename_i ei hei
        split at hK
        · rename_i hk8 hz8
          split at hK
          · rename_i hb
            simp only [Bool.and_eq_true, Nat.beq_eq] at hb
            obtain ⟨i0, d0, z0, T⟩ := TI.spec (hE.T tx ti hti)
            obtain ⟨i1, d1, z1, T1⟩ := TI.spec (hE.T e ei hei)
            have ht : P.underlying tx = some (.slice e) := by rw [T.und, kd_slice (T.kd.symm.trans hkd)]
            have hd1 := kd_int (T1.kd.symm.trans hk8)
            have hone := T1.zone (by rw [hd1]; rfl)
            have hz : i1.zero = some (.int .u8 0) := by
              rw [T1.zero]
              have hzs := T1.zs
              rw [hz8] at hzs
              cases z1 with
              | agg cs => cases hone
              | tuple cs => cases hone
              | bool b => cases b <;> simp [Value.cells, CV.ofV] at hzs
              | int k n => simp [Value.cells, CV.ofV] at hzs; rw [← hzs.1, ← hzs.2]
              | _ => simp [Value.cells, CV.ofV] at hzs
            have hs1 : i1.size = 1 := by rw [T1.size]; exact hb.2
            have hb1 : i1.bytes = 1 := by rw [T1.bytes]; exact hb.1
            split at hK
            · rename_i m hy
              split at hK
              · rename_i yi hyi
                split at hK
                · rename_i hks
                  obtain ⟨i2, d2, z2, T2⟩ := TI.spec (hE.T ty yi hyi)
                  have hty : P.underlying ty = some .string := by rw [T2.und, kd_str (T2.kd.symm.trans hks)]
                  have hy' := he y
                  rw [hy] at hy'
                  exact appGo_ok hA r hs hd hl hl2 hn ho ht T1.info hz hs1 hb1 (Or.inl ⟨hty, (Option.some.inj hy').symm⟩) hK
                · exact hK.elim
              · exact hK.elim
            · rename_i j off hy
              split at hK
              · rename_i ty2 cs htt hj
                have htt' : tx = ty := by simpa using htt
                split at hK
                · rename_i n hc
                  have hy' := he y
                  rw [hy] at hy'
                  obtain ⟨p, hp, hu⟩ := den_sl hy'
                  obtain ⟨vs, hv1, hv2⟩ := r.ok j _ p hj hp
                  obtain ⟨u, hu1, hu2⟩ := hv1.get hc
                  have hu3 : u = .int .u8 n := (Option.some.inj hu2).symm
                  rw [hA] at hK
                  have hpre : 0 ≤ n ∧ n < 256 := hK.pre
                  have hrest := hK.rest hK.pre
                  rw [← hA] at hrest
                  refine appGo_ok (m := [N.A.byte n]) hA r hs hd hl hl2 hn ho ht T1.info hz hs1 hb1 (Or.inr ⟨htt'.symm, ⟨p.b, off, none⟩, 1, hu, ?_⟩) hrest
                  intro q w hq
                  cases q with
                  | zero =>
                    simp at hq
                    subst hq
                    rw [Addr.add_mid, cell_of_row W p.b (off + 0) _ ty2 (0, 0) hv2]
                    have : vs.toArray[off + 0]? = some u := by simpa using hu1
                    rw [this, hu3, hA]
                    simp only [byteV, Arith.std]
                    congr 2
                    simp
                    omega
                  | succ q => simp at hq
                · exact hK.elim
              · exact hK.elim
            · rename_i j off len cap _ hy
              split at hK
              · rename_i ty2 cs htt hj
                have htt' : tx = ty := by simpa using htt
                split at hK
                · rename_i ns hns
                  split at hK
                  · rename_i hnl
                    have hnl : ns.length = len := by simpa using hnl
                    have hy' := he y
                    rw [hy] at hy'
                    obtain ⟨p, hp, hu⟩ := den_sl hy'
                    obtain ⟨vs, hv1, hv2⟩ := r.ok j _ p hj hp
                    have hvs := ints_ok hns ((hv1.drop off).take len)
                    rw [hA] at hK
                    have hpre : ∀ n ∈ ns, 0 ≤ n ∧ n < 256 := hK.pre
                    have hrest := hK.rest hK.pre
                    rw [← hA] at hrest
                    refine appGo_ok (m := ns.map N.A.byte) hA r hs hd hl hl2 hn ho ht T1.info hz hs1 hb1 (Or.inr ⟨htt'.symm, ⟨p.b, off, none⟩, cap, by rw [hu, List.length_map, hnl], ?_⟩) hrest
                    intro q w hq
                    rw [Addr.add_mid, cell_of_row W p.b (off + q) _ ty2 (0, 0) hv2]
                    have hql : q < ns.length := by have := (List.getElem?_eq_some_iff.1 hq).1; simpa using this
                    have h3 := congrArg (fun l => l[q]?) hvs
                    simp only [List.getElem?_take, List.getElem?_drop, if_pos (show q < len by omega), List.getElem?_map, List.getElem?_eq_getElem hql, Option.map_some] at h3
                    simp only [List.getElem?_map, List.getElem?_eq_getElem hql, Option.map_some, Option.some.injEq] at hq
                    have h4 : vs.toArray[off + q]? = some (.int .u8 ns[q]) := by simpa using h3
                    rw [h4, ← hq, hA]
                    have h5 := hpre ns[q] (List.getElem_mem hql)
                    simp only [byteV, Arith.std]
                    congr 2
                    simp
                    omega
                  · exact hK.elim
                · exact hK.elim
              · exact hK.elim
            · exact hK.elim
          · exact hK.elim
        · split at hK
          · rename_i j off hy
            split at hK
            · rename_i ty2 cs htt hj
              have htt' : tx = ty := by simpa using htt
              subst htt'
              split at hK
              · rename_i hb
                simp only [Bool.and_eq_true, Nat.beq_eq, Bool.not_eq_true'] at hb
                obtain ⟨⟨⟨hb1, hb2⟩, hb3⟩, hb4⟩ := hb
                subst hb2
                obtain ⟨i0, d0, z0, T⟩ := TI.spec (hE.T tx ti hti)
                obtain ⟨i1, d1, z1, T1⟩ := TI.spec (hE.T e ei hei)
                have ht : P.underlying tx = some (.slice e) := by rw [T.und, kd_slice (T.kd.symm.trans hkd)]
                have hy' := he y
                rw [hy] at hy'
                obtain ⟨p, hp, hu⟩ := den_sl hy'
                obtain ⟨vs, hv1, hv2⟩ := r.ok j _ p hj hp
                have hsz : 0 < ei.size := by
                  rcases Nat.eq_zero_or_pos ei.size with h0 | h0
                  · rw [h0] at hb4; cases hb4
                  · exact h0
                refine appS_ok (z := z1) hA r hs hd hl hl2 hn ho ht T1.info T1.zero T1.size T1.bytes T1.zsize hsz hu (by rw [← hv1.len, hb3]) (isL_pf hb1 hv1 []) (fun q w hq => ?_) hK
                rw [Addr.add_mid, cell_of_row W p.b (0 + q) _ ty2 (0, 0) hv2]
                simpa using hq
              · exact hK.elim
            · exact hK.elim
          · rename_i j hy
            split at hK
            · rename_i sz' m get2 htt hvw
              have htt' : tx = ty := by simpa using htt
              subst htt'
              split at hK
              · rename_i hb
                simp only [Bool.and_eq_true, Nat.beq_eq, Bool.not_eq_true'] at hb
                obtain ⟨hb1, hb4⟩ := hb
                subst hb1
                obtain ⟨i0, d0, z0, T⟩ := TI.spec (hE.T tx ti hti)
                obtain ⟨i1, d1, z1, T1⟩ := TI.spec (hE.T e ei hei)
                have ht : P.underlying tx = some (.slice e) := by rw [T.und, kd_slice (T.kd.symm.trans hkd)]
                have hy' := he y
                rw [hy] at hy'
                obtain ⟨p, hp, hu⟩ := den_row hy'
                obtain ⟨en, hen, hview⟩ := Option.bind_eq_some_iff.1 hvw
                obtain ⟨⟨ad, cap, hpv, _, had⟩, hget⟩ := Ent.view_ok hview (r.ok j en p hen hp)
                have hsz : 0 < ei.size := by
                  rcases Nat.eq_zero_or_pos ei.size with h0 | h0
                  · rw [h0] at hb4; cases hb4
                  · exact h0
                exact appV_ok (z := z1) (q := p) hA r hs hd hl hl2 hn ho ht T1.info T1.zero T1.size T1.bytes T1.zsize hsz (hu.trans hpv) had hget hK
              · exact hK.elim
            · exact hK.elim
          · rename_i j lo m sz2 hy
            split at hK
            · rename_i sz' m0 get2 htt hvw
              have htt' : tx = ty := by simpa using htt
              subst htt'
              split at hK
              · rename_i hb
                simp only [Bool.and_eq_true, Nat.beq_eq, Bool.not_eq_true'] at hb
                obtain ⟨⟨hb1, hb4⟩, hb5⟩ := hb
                subst hb1 hb5
                obtain ⟨i0, d0, z0, T⟩ := TI.spec (hE.T tx ti hti)
                obtain ⟨i1, d1, z1, T1⟩ := TI.spec (hE.T e ei hei)
                have ht : P.underlying tx = some (.slice e) := by rw [T.und, kd_slice (T.kd.symm.trans hkd)]
                have hy' := he y
                rw [hy] at hy'
                obtain ⟨p, ad, mm, cap, hp, hpv, hm, hu⟩ := den_vsl hy'
                obtain ⟨en, hen, hview⟩ := Option.bind_eq_some_iff.1 hvw
                obtain ⟨hmm, hc, had⟩ := view_part hview (r.ok j en p hen hp) hpv hm
                obtain ⟨_, hget⟩ := Ent.view_ok hview (r.ok j en p hen hp)
                have hsz : 0 < ei.size := by
                  rcases Nat.eq_zero_or_pos ei.size with h0 | h0
                  · rw [h0] at hb4; cases hb4
                  · exact h0
                refine appV_ok (z := z1) (q := ⟨p.b, p.v, p.o + lo * ei.size⟩) hA r hs hd hl hl2 hn ho ht T1.info T1.zero T1.size T1.bytes T1.zsize hsz hu had (fun i hi => ?_) hK
                obtain ⟨vs, k1, k2⟩ := hget (lo + i) (by omega)
                refine ⟨vs, k1, fun q v hq => ?_⟩
                have := k2 q v hq
                rwa [Nat.add_mul, ← Nat.add_assoc] at this
              · exact hK.elim
            · exact hK.elim
          · rename_i hy
            split at hK
            · rename_i hb
              simp only [Bool.and_eq_true, Nat.beq_eq, Bool.not_eq_true'] at hb
              obtain ⟨hb1, hb4⟩ := hb
              subst hb1
              obtain ⟨i0, d0, z0, T⟩ := TI.spec (hE.T tx ti hti)
              obtain ⟨i1, d1, z1, T1⟩ := TI.spec (hE.T e ei hei)
              have ht : P.underlying tx = some (.slice e) := by rw [T.und, kd_slice (T.kd.symm.trans hkd)]
              have hy' := he y
              rw [hy] at hy'
              have hsz : 0 < ei.size := by
                rcases Nat.eq_zero_or_pos ei.size with h0 | h0
                · rw [h0] at hb4; cases hb4
                · exact h0
              exact appV_ok (z := z1) (q := ⟨0, undef, 0⟩) hA r hs hd hl hl2 hn ho ht T1.info T1.zero T1.size T1.bytes T1.zsize hsz (Option.some.inj hy').symm (fun h => absurd h (by omega)) (fun i hi => absurd hi (by omega)) hK
            · exact hK.elim
          · exact hK.elim
      · exact hK.elim
    · exact hK.elim
  · exact hK.elim

theorem bytesC_ok {ρ : List Pl} (l : List UInt8) : ∀ (n j : Nat), j + n ≤ l.length → IsL ρ (bytesC .std l j n) (((l.drop j).take n).map byteV)
  | 0, j, h => by simp [bytesC, IsL]
  | n + 1, j, h => by
    have hj : j < l.length := by omega
    have e : (l.drop j).take (n + 1) = l[j] :: (l.drop (j + 1)).take n := by
      rw [List.drop_eq_getElem_cons hj, List.take_succ_cons]
    rw [e, List.map_cons]
    refine IsL.cons ?_ (bytesC_ok l n (j + 1) (by omega))
    show some (Value.int .u8 ((l.getD j 0).toNat : Int)) = some (byteV l[j])
    simp [byteV, List.getD, hj]
theorem run_copy_str {P : Program} {W : World} {dT sT t e ty : TypeId} {i : TypeInfo} {g o dLen dCap : Nat} {l : List UInt8} {vs : List Value} (hu : P.underlying dT = some (.slice e)) (hi : P.info? e = some i) (hg : W.heap[g]? = some (.cells vs.toArray ty (0, 0))) (hle : dLen ≤ l.length) (hfit : o + dLen ≤ vs.length) :
    ∃ W', (Builtin.copy_ #[dT, sT] t #[.slice (some ⟨g, o, none⟩) dLen dCap, .string ⟨l.toArray⟩]).run P W = .ok (.int .i64 (dLen : Int)) W' ∧ W'.heap[g]? = some (.cells (setV vs o ((l.take dLen).map byteV)).toArray ty (0, 0)) ∧
      (∀ b, b ≠ g → W'.heap[b]? = W.heap[b]?) ∧ W'.heap.size = W.heap.size ∧ W'.os = W.os ∧ W'.tape = W.tape ∧ W'.output = W.output := by
  have hml : ((l.take dLen).map byteV).length = dLen := by simp; omega
  have hst := run_storeCells_at P g o ty ((l.take dLen).map byteV) 0 vs.toArray W hg (by rw [hml]; simpa using hfit) (fun v hv => by
    obtain ⟨x, _, rfl⟩ := List.mem_map.1 hv
    rfl)
  rw [hml] at hst
  simp only [Nat.add_zero] at hst
  have hmin : Nat.min l.length dLen = dLen := Nat.min_eq_right hle
  have hlist : vs.toArray.toList.take o ++ (l.take dLen).map byteV ++ vs.toArray.toList.drop (o + dLen) = setV vs o ((l.take dLen).map byteV) := by
    have ho : (vs.take o).length = o := by simp; omega
    apply List.ext_getElem?
    intro q
    rw [setV_get, hml, List.append_assoc, List.toList_toArray]
    rcases Nat.lt_or_ge q o with h1 | h1
    · rw [List.getElem?_append_left (by omega), List.getElem?_take, if_pos h1, if_neg (by omega)]
    · rw [List.getElem?_append_right (by omega), ho]
      rcases Nat.lt_or_ge (q - o) ((l.take dLen).map byteV).length with h2 | h2
      · rw [List.getElem?_append_left h2, if_pos (by omega)]
      · rw [List.getElem?_append_right h2, List.getElem?_drop, if_neg (by omega), hml]
        congr 1
        omega
  rw [hlist] at hst
  have htk : List.take dLen (List.map (fun b : UInt8 => Value.int IntKind.u8 (b.toNat : Int)) l) = (l.take dLen).map byteV := by
    rw [List.map_take]
    rfl
  have hmin' : min l.length dLen = dLen := Nat.min_eq_right hle
  refine ⟨W.setRow g (setV vs o ((l.take dLen).map byteV)).toArray, ?_, setRow_heap W g vs.toArray _ ty _ hg, fun b hb => setRow_other _ _ _ _ (fun e => hb e), by simp, rfl, rfl, rfl⟩
  simp [Builtin.copy_, run_underlying hu, Builtin.lenOf, Builtin.firstCells, sizeOf, typeInfo, hi, ByteArray.size, hmin, hmin']
  rw [htk, hst]
  simp [Result.andThen, goInt]

theorem copyK_ok {P : Program} {N : Env} (hA : N.A = .std) (hE : N.E.Ok P) {w0 : World} {G : Gs} {ρ : List Pl} {st : St} {a : Act} {W : World} {o : Oper} {hS : List Ent} {Q : Exit → Act → World → Prop} {K : St → Prop} {next : Act → World → Prop}
    (r : Rel w0 G ρ st.h W) (hs : IsS ρ st.t a.tmps.toList) (hd : a.defers = []) (hl : Le hS st.h) (hl2 : hS.length ≤ st.h.length) (hn : Next w0 G ρ hS K next)
    {x y : Operand} {tx ty : TypeId} (ho : o.op = .call { callee := .builtin .copy, args := #[x, y], argTypes := #[tx, ty] })
    (hK : copyK N hS tx ty (ev st.t x) (ev st.t y) o.dst st K) : o.wp P a W next Q := by
  have he : ∀ x, (ev st.t x).is ρ (a.eval x) := ev_is hs
  unfold copyK at hK
  split at hK
  · rename_i k off len cap l ti hx hy hti
    split at hK
    · rename_i e t cs hkd hk
      split at hK
      · rename_i ei hb hei
        simp only [Bool.and_eq_true, Nat.ble_eq] at hb
        obtain ⟨hb1, hb2⟩ := hb
        rw [hA] at hK
        obtain ⟨i0, d0, z0, T⟩ := TI.spec (hE.T tx ti hti)
        obtain ⟨i1, d1, z1, T1⟩ := TI.spec (hE.T e ei hei)
        have ht : P.underlying tx = some (.slice e) := by rw [T.und, kd_slice (T.kd.symm.trans hkd)]
        have hx' := he x
        rw [hx] at hx'
        obtain ⟨p, hp, hu⟩ := den_sl hx'
        have hy' := he y
        rw [hy] at hy'
        have hyv : a.eval y = .string ⟨l.toArray⟩ := (Option.some.inj hy').symm
        obtain ⟨vs, hv1, hv2⟩ := r.ok k _ p hk hp
        have hvl : vs.length = cs.length := hv1.len.symm
        have hle : len ≤ l.length := hK.pre
        obtain ⟨W', g0, g1, g2, g3, g4, g5, g6⟩ := run_copy_str (sT := ty) (t := o.type) (dCap := cap) (o := off) ht T1.info hv2 hle (by omega)
        unfold Oper.wp
        have hrun : (execOp a.eval o).run P W = .ok (.value (.int .i64 (len : Int))) W' := by
          simp only [execOp, ho, resolve, invoke, builtin, Sem.run_bind, Sem.run_pure, Result.andThen_ok, List.map_toArray, List.map_cons, List.map_nil, hu, hyv, g0]
        rw [hrun, Oper.upon_value]
        have hbc := bytesC_ok (ρ := ρ) l len 0 (by omega)
        rw [List.drop_zero] at hbc
        have hwr := r.write (W' := W') hk hp (cs' := setMany cs off (bytesC .std l 0 len)) (isL_setV off hbc hv1) g1 g2 g3 g4 g5 g6
        refine hn [] _ _ _ (by rw [List.append_nil]; exact hwr) (by rw [List.append_nil]; exact put_is hs (v := .c (.int .i64 (len : Int))) rfl) (by rw [put_defers]; exact hd) ?_ (by rw [List.length_set]; exact hl2) (hK.rest hK.pre)
        intro j e he
        by_cases hj : j = k
        · subst hj; exact Or.inl (maskedAt_spec hb2 he)
        · rcases hl j e he with h1 | h1
          · exact Or.inl h1
          · right
            rw [List.getElem?_set_ne (fun e => hj e.symm)]; exact h1
      · exact hK.elim
    · exact hK.elim
  · exact hK.elim

theorem isL_zeros {ρ : List Pl} {l : List CV} {vs : List Value} (h : IsL ρ l vs) : ∀ n, IsL ρ (zeros n l) (List.replicate n vs).flatten
  | 0 => IsL.nil ρ
  | n + 1 => by
    rw [List.replicate_succ, List.flatten_cons]
    exact h.app (isL_zeros h n)

theorem flat_get (l : List Value) (hl : 0 < l.length) : ∀ (n i : Nat), i < n * l.length → ((List.replicate n l).flatten)[i]? = l[i % l.length]?
  | 0, i, h => by simp at h
  | n + 1, i, h => by
    rw [List.replicate_succ, List.flatten_cons]
    rcases Nat.lt_or_ge i l.length with h1 | h1
    · rw [List.getElem?_append_left h1, Nat.mod_eq_of_lt h1]
    · rw [List.getElem?_append_right h1, flat_get l hl n (i - l.length) (by rw [Nat.succ_mul] at h; omega)]
      congr 1
      rw [Nat.mod_eq_sub_mod h1]

theorem zero_row (n : Nat) (z : Array Value) (hz : 0 < z.size) : (Array.range (n * z.size)).map (fun i => z[i % z.size]!) = ((List.replicate n z.toList).flatten).toArray := by
  apply Array.ext'
  apply List.ext_getElem?
  intro i
  rcases Nat.lt_or_ge i (n * z.size) with hi | hi
  · have h1 := flat_get z.toList (by simpa using hz) n i (by simpa using hi)
    have hm : i % z.size < z.size := Nat.mod_lt _ hz
    rw [List.toList_toArray, h1]
    simp [hi, hm]
  · rw [List.getElem?_eq_none (by simpa using hi), List.getElem?_eq_none (by simp; exact hi)]
end Go.Proofs.Ytcgoaicifjndpaa.Vx
