/- Contracts of functions of any shape: what the arguments hang on is handed over under the function's own numbers, and handed back. -/
import Derived.Test.YtcgoaicifjndpaaVxLive
namespace Go.Proofs.Ytcgoaicifjndpaa.Vx
open Go.RowKit
set_option linter.unusedVariables false
set_option linter.unusedSimpArgs false

/-! ### The caller's numbers, turned into the function's -/
def idxN : List Nat → Nat → Nat → Option Nat
  | [], _, _ => none
  | x :: xs, k, i => match Nat.beq x k with
    | true => some i
    | false => idxN xs k (i + 1)
theorem idxN_aux {k i : Nat} : ∀ {σ : List Nat} {i0 : Nat}, idxN σ k i0 = some i → i0 ≤ i ∧ σ[i - i0]? = some k
  | [], i0, h => by cases h
  | x :: xs, i0, h => by
    simp only [idxN] at h
    split at h
    · rename_i hx
      cases h
      have : x = k := by simpa using hx
      subst this
      simp
    · obtain ⟨h1, h2⟩ := idxN_aux h
      refine ⟨by omega, ?_⟩
      rw [show i - i0 = (i - (i0 + 1)) + 1 by omega, List.getElem?_cons_succ]
      exact h2
theorem idxN_ok {σ : List Nat} {k i : Nat} (h : idxN σ k 0 = some i) : σ[i]? = some k := by
  simpa using (idxN_aux h).2
theorem idxN_none {k : Nat} : ∀ {σ : List Nat} {i0 : Nat}, idxN σ k i0 = none → k ∉ σ
  | [], _, _ => by simp
  | x :: xs, i0, h => by
    simp only [idxN] at h
    split at h
    · cases h
    · rename_i hx
      have hx : ¬ x = k := fun e => by subst e; simp at hx
      simp only [List.mem_cons, not_or]
      exact ⟨fun e => hx e.symm, idxN_none h⟩
def nodupB : List Nat → Bool
  | [] => true
  | x :: xs => match idxN xs x 0 with
    | some _ => false
    | none => nodupB xs
theorem nodupB_ok : ∀ {σ : List Nat}, nodupB σ = true → σ.Nodup
  | [], _ => List.nodup_nil
  | x :: xs, h => by
    simp only [nodupB] at h
    split at h
    · cases h
    · rename_i hn
      exact List.nodup_cons.2 ⟨idxN_none hn, nodupB_ok h⟩

def invC (σ : List Nat) : CV → Option CV
  | .tt => some (.bool true)
  | .ff => some (.bool false)
  | .ptr k o => match idxN σ k 0 with
    | some i => some (.ptr i o)
    | none => none
  | .row k => match idxN σ k 0 with
    | some i => some (.row i)
    | none => none
  | .sl k o l c => match idxN σ k 0 with
    | some i => some (.sl i o l c)
    | none => none
  | .eptr k i s o => match idxN σ k 0 with
    | some j => some (.eptr j i s o)
    | none => none
  | .aptr k i o m => match idxN σ k 0 with
    | some j => some (.aptr j i o m)
    | none => none
  | .vsl k i o m => match idxN σ k 0 with
    | some j => some (.vsl j i o m)
    | none => none
  | x => some x
def invL (σ : List Nat) : List CV → Option (List CV)
  | [] => some []
  | x :: xs => match invC σ x, invL σ xs with
    | some y, some ys => some (y :: ys)
    | _, _ => none
def invE (σ : List Nat) : Ent → Option Ent
  | .cells t cs => match invL σ cs with
    | some ds => some (.cells t ds)
    | none => none
  | .data _ ty sz n g => some (.data false ty sz n fun i j => (g i j).old)
  | .orow .. => none
  | e => some e
def invH (σ : List Nat) (h : List Ent) : List Nat → Option (List Ent)
  | [] => some []
  | k :: ks => match h[k]? with
    | some e => match invE σ e, invH σ h ks with
      | some e', some es => some (e' :: es)
      | _, _ => none
    | none => none

theorem invC_ok {σ : List Nat} {ρ ρ0 : List Pl} (hp : ∀ (i k : Nat) (p : Pl), σ[i]? = some k → ρ[k]? = some p → ρ0[i]? = some p) {x y : CV} {u : Value} (h : invC σ x = some y) (d : x.den ρ = some u) : y.den ρ0 = some u := by
  have key : ∀ (k i : Nat) (f : Pl → Option Value), idxN σ k 0 = some i → (match ρ[k]? with | some p => f p | none => none) = some u → (match ρ0[i]? with | some p => f p | none => none) = some u := fun k i f hi hd => by
    cases hk : ρ[k]? with
    | none => rw [hk] at hd; cases hd
    | some p =>
      rw [hk] at hd
      rw [hp i k p (idxN_ok hi) hk]
      exact hd
  cases x with
  | ptr k o =>
    simp only [invC] at h
    split at h
    · rename_i i hi; cases h
      exact key k i (fun p => some (.pointer (some ⟨p.b, o, none⟩))) hi d
    · cases h
  | row k =>
    simp only [invC] at h
    split at h
    · rename_i i hi; cases h
      exact key k i (fun p => if one p.v then some p.v else none) hi d
    · cases h
  | sl k o l c =>
    simp only [invC] at h
    split at h
    · rename_i i hi; cases h
      exact key k i (fun p => some (.slice (some ⟨p.b, o, none⟩) l c)) hi d
    · cases h
  | eptr k j s o =>
    simp only [invC] at h
    split at h
    · rename_i i hi; cases h
      exact key k i (fun p => some (.pointer (some ⟨p.b, p.o + j * s + o, none⟩))) hi d
    · cases h
  | aptr k j o m =>
    simp only [invC] at h
    split at h
    · rename_i i hi; cases h
      exact key k i (fun p => some (.pointer (some ⟨p.b, o + j, none⟩))) hi d
    · cases h
  | vsl k j o m =>
    simp only [invC] at h
    split at h
    · rename_i i hi; cases h
      exact key k i (fun p => subV p.v j o m) hi d
    · cases h
  | tt => cases h; exact d
  | ff => cases h; exact d
  | _ => cases h; exact d
theorem invL_ok {σ : List Nat} {ρ ρ0 : List Pl} (hp : ∀ (i k : Nat) (p : Pl), σ[i]? = some k → ρ[k]? = some p → ρ0[i]? = some p) : ∀ {xs ys : List CV} {us : List Value}, invL σ xs = some ys → IsL ρ xs us → IsL ρ0 ys us
  | [], ys, us, h, d => by
    cases h
    cases us <;> simp [IsL] at d ⊢
  | x :: xs, ys, us, h, d => by
    cases us with
    | nil => simp [IsL] at d
    | cons u us =>
      simp only [IsL, List.map_cons, List.cons.injEq] at d
      simp only [invL] at h
      split at h
      · rename_i y ys' h1 h2
        cases h
        exact IsL.cons (invC_ok hp h1 d.1) (invL_ok hp h2 d.2)
      · cases h
theorem invE_ok {σ : List Nat} {ρ ρ0 : List Pl} (hp : ∀ (i k : Nat) (p : Pl), σ[i]? = some k → ρ[k]? = some p → ρ0[i]? = some p) {e e' : Ent} {p : Pl} {W : World} (h : invE σ e = some e') (d : e.ok ρ p W) : e'.ok ρ0 p W ∧ e'.fp p = e.fp p ∧ e'.isElems = e.isElems ∧ e'.dep p = e.dep p := by
  cases e with
  | cells t cs =>
    simp only [invE] at h
    split at h
    · rename_i ds hd
      cases h
      obtain ⟨vs, g1, g2⟩ := d
      exact ⟨⟨vs, invL_ok hp hd g1, g2⟩, rfl, rfl, rfl⟩
    · cases h
  | row e sz n g => cases h; exact ⟨d, rfl, rfl, rfl⟩
  | bytes e l => cases h; exact ⟨d, rfl, rfl, rfl⟩
  | elems t s n g => cases h; exact ⟨d, rfl, rfl, rfl⟩
  | glob g s n get => cases h; exact ⟨d, rfl, rfl, rfl⟩
  | dead => cases h; exact ⟨d, rfl, rfl, rfl⟩
  | mp gs l => cases h; exact ⟨d, rfl, rfl, rfl⟩
  | mq t l => cases h; exact ⟨d, rfl, rfl, rfl⟩
  | data fr ty sz n g => cases h; exact ⟨d, rfl, rfl, rfl⟩
  | orow ty sz n g => cases h
/-- To the function all that lies still is old. -/
theorem invE_dat {σ : List Nat} {e e' : Ent} {p : Pl} {W : World} {D D' : Bool → Nat → Prop} (hD : ∀ fr b, D fr b → D' false b) (h : invE σ e = some e') (d : e.dat W D p) : e'.dat W D' p := by
  cases e with
  | cells t cs =>
    simp only [invE] at h
    split at h
    · cases h; trivial
    · cases h
  | data fr ty sz n g => cases h; exact Cell.shows_old (c := .ns fr ty sz n g) (fun fr b hb => ⟨hD fr b hb, rfl⟩) d
  | orow ty sz n g => cases h
  | elems t s n g => cases h; exact fun h0 => hD _ _ (d h0)
  | glob g s n get => cases h; exact fun h0 => hD _ _ (d h0)
  | row e sz n g => cases h; trivial
  | bytes e l => cases h; trivial
  | dead => cases h; trivial
  | mp gs l => cases h; trivial
  | mq t l =>
    cases h
    obtain ⟨es, ck, h1, h2⟩ := d
    exact ⟨es, ck, h1, recsShow_mono (fun b hb => ⟨hD false b hb, rfl⟩) h2⟩
theorem invH_get {σ : List Nat} {h : List Ent} : ∀ {ks : List Nat} {es : List Ent}, invH σ h ks = some es → es.length = ks.length ∧ ∀ (i : Nat) (e' : Ent), es[i]? = some e' → ∃ k e, ks[i]? = some k ∧ h[k]? = some e ∧ invE σ e = some e'
  | [], es, hh => by cases hh; exact ⟨rfl, fun i e' he => by simp at he⟩
  | k :: ks, es, hh => by
    simp only [invH] at hh
    split at hh
    · rename_i e he
      split at hh
      · rename_i e1 es1 h1 h2
        cases hh
        obtain ⟨g1, g2⟩ := invH_get h2
        refine ⟨by simp [g1], fun i e' hi => ?_⟩
        cases i with
        | zero => simp at hi; subst hi; exact ⟨k, e, rfl, he, h1⟩
        | succ i => simpa using g2 i e' (by simpa using hi)
      · cases hh
    · cases hh

/-! ### Which entries are handed over -/
def addN (σ : List Nat) (k : Nat) : List Nat := match idxN σ k 0 with
  | some _ => σ
  | none => σ ++ [k]
def addC (σ : List Nat) : CV → List Nat
  | .ptr k _ => addN σ k
  | .row k => addN σ k
  | .sl k _ _ _ => addN σ k
  | .eptr k _ _ _ => addN σ k
  | .aptr k _ _ _ => addN σ k
  | .vsl k _ _ _ => addN σ k
  | _ => σ
def addCs (σ : List Nat) : List CV → List Nat
  | [] => σ
  | x :: xs => addCs (addC σ x) xs
def rootC (σ : List Nat) : CV → List Nat
  | .ptr k _ => addN σ k
  | .eptr k _ _ _ => addN σ k
  | .aptr k _ _ _ => addN σ k
  | _ => σ
def rootCs (σ : List Nat) : List CV → List Nat
  | [] => σ
  | x :: xs => rootCs (rootC σ x) xs
def rootS (σ : List Nat) : List SV → List Nat
  | [] => σ
  | .c x :: xs => rootS (rootC σ x) xs
  | .agg cs :: xs => rootS (rootCs σ cs) xs
  | .fn _ cs :: xs => rootS (rootCs σ cs) xs
  | _ :: xs => rootS σ xs
def rootG (h : List Ent) (σ : List Nat) : List Nat → List Nat
  | [] => σ
  | g :: gs => match findG g h 0 with
    | some (k, _, _) => rootG h (addN σ k) gs
    | none => rootG h σ gs
def clos (h : List Ent) : Nat → Nat → List Nat → List Nat
  | 0, _, σ => σ
  | f + 1, i, σ => match σ[i]? with
    | none => σ
    | some k => match h[k]? with
      | some (.cells _ cs) => clos h f (i + 1) (addCs σ cs)
      | _ => clos h f (i + 1) σ

/-! ### The slices that are handed in by value -/
structure VW where
  ty : Nat
  sz : Nat
  v : View
  s : Option Nat
  d : Option (Nat → Nat → Cell)
def VW.ent (w : VW) : Ent := match w.d with
  | none => .elems w.ty w.sz w.v.1 w.v.2
  | some g => .data false w.ty w.sz w.v.1 fun i j => (g i j).old
/-- Elements that may hold slices, as a slice tells them. -/
def viewD (sz : Nat) (h : List Ent) : CV → Option (Nat × (Nat → Nat → Cell))
  | .row k => match (h[k]?).bind Ent.dview with
    | some (_, sz', n, g) => match Nat.beq sz sz' with
      | true => some (n, g)
      | false => none
    | none => none
  | .vsl k lo n sz2 => match (h[k]?).bind Ent.dview with
    | some (_, sz', _, g) => match Nat.beq sz sz' && Nat.beq sz2 sz' with
      | true => some (n, fun i => g (lo + i))
      | false => none
    | none => none
  | .sl k off len cap => match h[k]? with
    | some (.cells _ cs) => match layC h cs with
      | some (ls, []) => match Nat.ble (off + len * sz) cs.length && Nat.ble len cap with
        | true => some (len, fun i j => ls.getD (off + i * sz + j) (.pl .tt))
        | false => none
      | _ => none
    | _ => none
  | .val (.slice none 0 0) => some (0, fun _ _ => .pl .tt)
  | _ => none
/-- The blocks that a call with the entries σ may not write. -/
def DS (σ : List Nat) (ρ : List Pl) (h : List Ent) (W : World) : Bool → Nat → Prop := fun fr b => fr = false ∧ b < W.heap.size ∧ ∀ k ∈ σ, fp ρ h k ≠ some b
/-- The entry behind a cell. -/
def refC : CV → Option Nat
  | .row k => some k
  | .vsl k _ _ _ => some k
  | .sl k _ _ _ => some k
  | _ => none
def isRow : CV → Option Nat
  | .row k => some k
  | _ => none
def mine (σ : List Nat) (x : CV) : Bool := match refC x with
  | some k => match idxN σ k 0 with
    | some _ => true
    | none => false
  | none => match x with
    | .val (.slice none 0 0) => false
    | _ => true

noncomputable def absX (σ : List Nat) (h : List Ent) (vt : List (Nat × Nat)) (i : Nat) (x : CV) : Option (CV × Option VW × List (Nat × Nat)) :=
  match mine σ x with
  | true => match invC σ x with
    | some y => some (y, none, vt)
    | none => none
  | false => match vt with
    | (ty, sz) :: vt => match Nat.ble 200 sz with
      | true => match viewD (sz - 200) h x with
        | some (n, g) => some (.row i, some ⟨ty, sz - 200, (n, fun _ => []), isRow x, some g⟩, vt)
        | none => none
      | false => match viewC sz h x with
        | some v => some (.row i, some ⟨ty, sz, v, isRow x, none⟩, vt)
        | none => none
    | [] => none
noncomputable def absY (σ : List Nat) (h : List Ent) : List (Nat × Nat) → Nat → List CV → Option (List CV × List VW × List (Nat × Nat))
  | vt, _, [] => some ([], [], vt)
  | vt, i, x :: xs => match absX σ h vt i x with
    | some (y, none, vt) => match absY σ h vt i xs with
      | some (ys, ws, vt) => some (y :: ys, ws, vt)
      | none => none
    | some (y, some w, vt) => match absY σ h vt (i + 1) xs with
      | some (ys, ws, vt) => some (y :: ys, w :: ws, vt)
      | none => none
    | none => none
noncomputable def absZ (σ : List Nat) (h : List Ent) : List (Nat × Nat) → Nat → List SV → Option (List SV × List VW)
  | _, _, [] => some ([], [])
  | vt, i, .c x :: xs => match absY σ h vt i [x] with
    | some ([y], ws, vt) => match absZ σ h vt (i + ws.length) xs with
      | some (ys, vs) => some (.c y :: ys, ws ++ vs)
      | none => none
    | _ => none
  | vt, i, .agg cs :: xs => match absY σ h vt i cs with
    | some (ds, ws, vt) => match absZ σ h vt (i + ws.length) xs with
      | some (ys, vs) => some (.agg ds :: ys, ws ++ vs)
      | none => none
    | none => none
  | vt, i, .fn f cs :: xs => match absY σ h vt i cs with
    | some (ds, ws, vt) => match absZ σ h vt (i + ws.length) xs with
      | some (ys, vs) => some (.fn f ds :: ys, ws ++ vs)
      | none => none
    | none => none
  | _, _, _ => none

/-- A slice's place, in the caller's memory. -/
structure GoodX (σ : List Nat) (ρ : List Pl) (h : List Ent) (W : World) (w : VW) (p : Pl) : Prop where
  good : Good W w.sz w.v p
  src : ∀ k, w.s = some k → ρ[k]? = some p
  own : 0 < w.v.1 → p.b ∈ Fps ρ h → ∃ k, k ∉ σ ∧ fp ρ h k = some p.b
  da : ∀ g, w.d = some g → (Cell.ns false w.ty w.sz w.v.1 fun i j => (g i j).old).shows W (DS σ ρ h W) p.v
def GoodXs (σ : List Nat) (ρ : List Pl) (h : List Ent) (W : World) (ws : List VW) (ps : List Pl) : Prop := ps.length = ws.length ∧ ∀ (j : Nat) (w : VW) (p : Pl), ws[j]? = some w → ps[j]? = some p → GoodX σ ρ h W w p
theorem GoodXs.nil (σ : List Nat) (ρ : List Pl) (h : List Ent) (W : World) : GoodXs σ ρ h W [] [] := ⟨rfl, fun j w p h => by simp at h⟩
theorem GoodXs.cons {σ : List Nat} {ρ : List Pl} {h : List Ent} {W : World} {w : VW} {p : Pl} {ws : List VW} {ps : List Pl} (g : GoodX σ ρ h W w p) (gs : GoodXs σ ρ h W ws ps) : GoodXs σ ρ h W (w :: ws) (p :: ps) := by
  refine ⟨by simp [gs.1], fun j w' p' h1 h2 => ?_⟩
  cases j with
  | zero => simp at h1 h2; subst h1 h2; exact g
  | succ j => exact gs.2 j w' p' (by simpa using h1) (by simpa using h2)
theorem GoodXs.append {σ : List Nat} {ρ : List Pl} {h : List Ent} {W : World} {vs ws : List VW} {ps qs : List Pl} (g : GoodXs σ ρ h W vs ps) (k : GoodXs σ ρ h W ws qs) : GoodXs σ ρ h W (vs ++ ws) (ps ++ qs) := by
  refine ⟨by simp [g.1, k.1], fun j v p h1 h2 => ?_⟩
  by_cases hj : j < vs.length
  · rw [List.getElem?_append_left hj] at h1
    rw [List.getElem?_append_left (by rw [g.1]; exact hj)] at h2
    exact g.2 j v p h1 h2
  · rw [List.getElem?_append_right (by omega)] at h1
    rw [List.getElem?_append_right (by rw [g.1]; omega), g.1] at h2
    exact k.2 _ v p h1 h2

theorem viewC_own {w0 : World} {G : Gs} {W : World} {ρ : List Pl} {h : List Ent} {sz : Nat} (rel : Rel w0 G ρ h W) {x : CV} {v : View} {u : Value} (hv : viewC sz h x = some v) (hu : x.den ρ = some u) :
    ∃ p : Pl, p.v = u ∧ Good W sz v p ∧ (∀ k, isRow x = some k → ρ[k]? = some p) ∧ (0 < v.1 → p.b ∈ Fps ρ h → ∃ k, refC x = some k ∧ fp ρ h k = some p.b) := by
  have hv0 := hv
  unfold viewC at hv
  split at hv
  · rename_i k
    obtain ⟨p, hpk, rfl⟩ := den_row hu
    split at hv
    · rename_i sz' n get hvw
      obtain ⟨en, hk, hen⟩ := Option.bind_eq_some_iff.1 hvw
      split at hv
      · rename_i hb
        have hsz : sz = sz' := by simpa using hb
        subst hsz
        cases hv
        obtain ⟨⟨a, cap, hpv, hcap, ha⟩, hget⟩ := Ent.view_ok hen (rel.ok k _ p hk hpk)
        have hdep := view_dep hen (rel.ok k _ p hk hpk)
        refine ⟨p, rfl, ⟨⟨a, cap, hpv, hcap, ha⟩, fun hn => rel.dep_lt hk hpk (hdep hn), hget⟩, fun j hj => by cases hj; exact hpk, fun hn hm => ⟨k, rfl, ?_⟩⟩
        rw [fp_mk hk hpk]
        rcases dep_fp (hdep hn) with h1 | h1
        · exact h1
        · obtain ⟨k', hk'⟩ := mem_Fps.1 hm
          exact absurd hk' ((rel.ro hk hpk h1 (hdep hn)).2.1 k')
      · cases hv
    · cases hv
  · rename_i k lo n sz'
    obtain ⟨p, a, m', cap, hpk, hpv, hm, rfl⟩ := den_vsl hu
    split at hv
    · rename_i sz2 m get hvw
      obtain ⟨en, hk, hen⟩ := Option.bind_eq_some_iff.1 hvw
      split at hv
      · rename_i hb
        simp only [Bool.and_eq_true, Nat.beq_eq] at hb
        obtain ⟨rfl, rfl⟩ := hb
        cases hv
        obtain ⟨q, h1, h2, h3⟩ := view_sub hen rel hk hpk hpv hm
        refine ⟨q, h1, h2, (fun j hj => by cases hj), fun hn hmem => ⟨k, rfl, ?_⟩⟩
        have hn : 0 < n := hn
        obtain ⟨hmm, _, _⟩ := view_part hen (rel.ok k _ p hk hpk) hpv hm
        have hdep := view_dep hen (rel.ok k _ p hk hpk) (by omega)
        rw [h3] at hmem ⊢
        rw [fp_mk hk hpk]
        rcases dep_fp hdep with h1 | h1
        · exact h1
        · obtain ⟨k', hk'⟩ := mem_Fps.1 hmem
          exact absurd hk' ((rel.ro hk hpk h1 hdep).2.1 k')
      · cases hv
    · cases hv
  · rename_i k off len cap
    obtain ⟨p, hpk, rfl⟩ := den_sl hu
    split at hv
    · rename_i t cs hk
      split at hv
      · rename_i hb
        simp only [Bool.and_eq_true, Nat.ble_eq] at hb
        obtain ⟨hb, hlc⟩ := hb
        cases hv
        obtain ⟨vs, hv1, hv2⟩ := rel.ok k _ p hk hpk
        have hlt : p.b < W.heap.size := (Array.getElem?_eq_some_iff.1 hv2).1
        refine ⟨⟨p.b, .slice (some ⟨p.b, off, none⟩) len cap, off⟩, rfl, ⟨⟨_, _, rfl, hlc, fun _ => rfl⟩, fun _ => hlt, fun i hi => ⟨_, ((isL_pf hb.1 hv1 []).drop _).take _, fun j w hj => ?_⟩⟩, (fun j hj => by cases hj), fun _ _ => ⟨k, rfl, by rw [fp_mk hk hpk]; rfl⟩⟩
        rw [cell_of_row W p.b _ _ t (0, 0) hv2]
        simp only [List.getElem?_take, List.getElem?_drop] at hj
        split at hj
        · simpa using hj
        · cases hj
      · cases hv
    · cases hv
  · cases hv
    have : u = .slice none 0 0 := by
      simp only [CV.den, one, if_true] at hu
      exact (Option.some.inj hu).symm
    subst this
    exact ⟨⟨0, .slice none 0 0, 0⟩, rfl, ⟨⟨none, 0, rfl, Nat.le_refl _, fun h => absurd h (by decide)⟩, fun h => absurd h (by decide), fun i hi => absurd hi (by simp)⟩, (fun j hj => by cases hj), fun h => absurd h (by simp)⟩
  · cases hv

theorem viewD_own {w0 : World} {G : Gs} {W : World} {σ : List Nat} {ρ : List Pl} {h : List Ent} {sz : Nat} (rel : Rel w0 G ρ h W) {x : CV} {n : Nat} {g : Nat → Nat → Cell} {u : Value} (ty : TypeId) (hv : viewD sz h x = some (n, g)) (hu : x.den ρ = some u) (hno : ∀ k, refC x = some k → k ∉ σ) :
    ∃ p : Pl, GoodX σ ρ h W ⟨ty, sz, (n, fun _ => []), isRow x, some g⟩ p ∧ p.v = u := by
  have dep : ∀ {k : Nat} {en : Ent} {p : Pl} {fr : Bool} {sz' m : Nat} {g' : Nat → Nat → Cell}, h[k]? = some en → ρ[k]? = some p → en.dview = some (fr, sz', m, g') → 0 < m → k ∉ σ →
      p.b < W.heap.size ∧ (∀ j ∈ σ, fp ρ h j ≠ some p.b) ∧ (p.b ∈ Fps ρ h → ∃ j, j ∉ σ ∧ fp ρ h j = some p.b) := fun {k en p fr sz' m g'} hk hp hen hm hσ => by
    have hok := rel.ok k en p hk hp
    have hd := rel.dat k en p hk hp
    cases en with
    | data fr ty sz'' n'' get =>
      cases hen
      obtain ⟨a, cap, h1, h2, h3⟩ := hd
      obtain ⟨b, o, h4, h5, _⟩ := h3 hm
      obtain ⟨a', cap', k1, k2, k3⟩ := hok
      rw [k1] at h1
      cases h1
      have hb : p.b = b := by
        have := (k3 hm).symm.trans h4
        cases this; rfl
      obtain ⟨q1, q2, _⟩ := Dom.own rel h5
      rw [← hb] at q1 q2
      exact ⟨q1, fun j _ => q2 j, fun hmem => by
        obtain ⟨j, hj⟩ := mem_Fps.1 hmem
        exact absurd hj (q2 j)⟩
    | orow ty sz'' n'' get =>
      cases hen
      have hf : fp ρ h k = some p.b := by
        rw [fp_mk hk hp]
        obtain ⟨vs, h6, _⟩ := hd
        rcases h6.2 with ⟨_, hn⟩ | ⟨g', cap', cur, hv, _⟩
        · omega
        · show p.v.ownBlock = some p.b
          rw [hv]
          have := hok.2.2 g' (by rw [hv]; rfl)
          rw [← this]; rfl
      refine ⟨(rel.own k _ hf).1, fun j hj hfj => ?_, fun _ => ⟨k, hσ, hf⟩⟩
      have := rel.dis j k _ hfj hf
      subst this
      exact hσ hj
    | _ => cases hen
  have shw : ∀ {fr : Bool} {c : Cell} {v : Value}, c.shows W (subD (Dom w0 G ρ h W) fr) v → c.old.shows W (DS σ ρ h W) v := fun {fr c v} hc => Cell.shows_old (fun fr' b hb => ⟨by
    have : Dom w0 G ρ h W false b := by
      cases fr
      · exact Dom.weak hb
      · exact Dom.weak (fr := true) hb
    obtain ⟨q1, q2, _⟩ := Dom.own rel this
    exact ⟨rfl, q1, fun k _ => q2 k⟩, rfl⟩) hc
  unfold viewD at hv
  split at hv
  · rename_i k
    obtain ⟨p, hpk, rfl⟩ := den_row hu
    split at hv
    · rename_i fr sz' n' g' hvw
      obtain ⟨en, hk, hen⟩ := Option.bind_eq_some_iff.1 hvw
      split at hv
      · rename_i hb
        have hsz : sz = sz' := by simpa using hb
        subst hsz
        cases hv
        have hσ := hno k rfl
        obtain ⟨⟨a, cap, h1, h2, h3⟩, hcell⟩ := Ent.dview_ok hen (rel.ok k en p hk hpk) (rel.dat k en p hk hpk)
        refine ⟨p, ⟨⟨⟨a, cap, h1, h2, h3⟩, fun hn => (dep hk hpk hen hn hσ).1, fun i hi => ⟨[], rfl, fun j v hj => by simp at hj⟩⟩, fun j hj => by cases hj; exact hpk, fun hn hm => (dep hk hpk hen hn hσ).2.2 hm, fun g2 hg2 => ?_⟩, rfl⟩
        cases hg2
        refine ⟨a, cap, h1, h2, fun h0 => ⟨p.b, p.o, h3 h0, ⟨rfl, (dep hk hpk hen h0 hσ).1, (dep hk hpk hen h0 hσ).2.1⟩, fun i j hi hj => ?_⟩⟩
        obtain ⟨v, k1, k2⟩ := hcell i j hi hj
        exact ⟨v, k1, shw k2⟩
      · cases hv
    · cases hv
  · rename_i k lo n0 sz2
    obtain ⟨p, a0, m', cap, hpk, hpv, hm, rfl⟩ := den_vsl hu
    split at hv
    · rename_i fr sz' n' g' hvw
      obtain ⟨en, hk, hen⟩ := Option.bind_eq_some_iff.1 hvw
      split at hv
      · rename_i hb
        simp only [Bool.and_eq_true, Nat.beq_eq] at hb
        obtain ⟨e1, e2⟩ := hb
        subst e1
        replace e2 := e2.symm
        subst e2
        cases hv
        have hσ := hno k rfl
        obtain ⟨⟨a, cap', h1, h2, h3⟩, hcell⟩ := Ent.dview_ok hen (rel.ok k en p hk hpk) (rel.dat k en p hk hpk)
        rw [hpv] at h1
        cases h1
        have ha : 0 < n → (if cap = lo then a0 else a0.map (·.add (lo * sz))) = some ⟨p.b, p.o + lo * sz, none⟩ := fun h0 => by
          rw [if_neg (by omega), h3 (by omega)]
          simp only [Option.map_some, addr_add]
        refine ⟨⟨p.b, _, p.o + lo * sz⟩, ⟨⟨⟨_, cap - lo, rfl, by show n ≤ cap - lo; omega, ha⟩, fun hn => (dep hk hpk hen (by have : 0 < n := hn; omega) hσ).1, fun i hi => ⟨[], rfl, fun j v hj => by simp at hj⟩⟩, (fun j hj => by cases hj), fun hn hm => (dep hk hpk hen (by have : 0 < n := hn; omega) hσ).2.2 hm, fun g2 hg2 => ?_⟩, rfl⟩
        cases hg2
        refine ⟨_, cap - lo, rfl, by show n ≤ cap - lo; omega, fun h0 => ⟨p.b, p.o + lo * sz, ha h0, ⟨rfl, (dep hk hpk hen (by have : 0 < n := h0; omega) hσ).1, (dep hk hpk hen (by have : 0 < n := h0; omega) hσ).2.1⟩, fun i j hi hj => ?_⟩⟩
        have hi : i < n := hi
        obtain ⟨v, k1, k2⟩ := hcell (lo + i) j (by omega) hj
        refine ⟨v, ?_, shw k2⟩
        rwa [Nat.add_mul, ← Nat.add_assoc] at k1
      · cases hv
    · cases hv
  · rename_i k off len cap
    obtain ⟨p, hpk, rfl⟩ := den_sl hu
    split at hv
    · rename_i t cs hk
      split at hv
      · rename_i ls hlay
        split at hv
        · rename_i hb
          simp only [Bool.and_eq_true, Nat.ble_eq] at hb
          obtain ⟨hb, hlc⟩ := hb
          cases hv
          have hσ := hno k rfl
          obtain ⟨vs, hv1, hv2⟩ := rel.ok k _ p hk hpk
          have hlt : p.b < W.heap.size := (Array.getElem?_eq_some_iff.1 hv2).1
          have hfp : fp ρ h k = some p.b := by rw [fp_mk hk hpk]; rfl
          have hsL := layC_ok (KS := []) rel rel hlay (fun _ h => h) hv1
          have hll : ls.length = cs.length := by
            rw [hsL.len]
            have := congrArg List.length hv1
            simpa using this.symm
          refine ⟨⟨p.b, .slice (some ⟨p.b, off, none⟩) n cap, off⟩, ⟨⟨⟨_, _, rfl, hlc, fun _ => rfl⟩, fun _ => hlt, fun i hi => ⟨[], rfl, fun j v hj => by simp at hj⟩⟩, (fun j hj => by cases hj), fun _ _ => ⟨k, hσ, hfp⟩, fun g2 hg2 => ?_⟩, rfl⟩
          cases hg2
          refine ⟨_, cap, rfl, hlc, fun h0 => ⟨p.b, off, rfl, ⟨rfl, hlt, fun j hj hfj => ?_⟩, fun i j hi hj => ?_⟩⟩
          · have := rel.dis j k _ hfj hfp
            subst this
            exact hσ hj
          · have hi : i < n := hi
            have hj : j < sz := hj
            have hm := Nat.mul_le_mul_right sz (show i + 1 ≤ n from hi)
            rw [Nat.add_mul, Nat.one_mul] at hm
            obtain ⟨v, k1, k2⟩ := hsL.get (j := off + i * sz + j) (by omega)
            refine ⟨v, ?_, Cell.shows_old (fun fr' b hb => ⟨by
              have : Dom w0 G ρ h W false b := Dom.weak (fr := fr') hb
              obtain ⟨q1, q2, _⟩ := Dom.own rel this
              exact ⟨rfl, q1, fun k _ => q2 k⟩, rfl⟩) k2⟩
            rw [cell_of_row W p.b _ _ t (0, 0) hv2]
            simpa using k1
        · cases hv
      · cases hv
    · cases hv
  · cases hv
    have : u = .slice none 0 0 := by
      simp only [CV.den, one, if_true] at hu
      exact (Option.some.inj hu).symm
    subst this
    exact ⟨⟨0, .slice none 0 0, 0⟩, ⟨⟨⟨none, 0, rfl, Nat.le_refl _, fun h => absurd h (Nat.lt_irrefl 0)⟩, fun h => absurd h (Nat.lt_irrefl 0), fun i hi => absurd hi (by simp)⟩, (fun j hj => by cases hj), fun h => absurd h (by simp), fun g2 hg2 => ⟨none, 0, rfl, Nat.le_refl _, fun h => absurd h (by simp)⟩⟩, rfl⟩
  · cases hv

theorem absX_ok {w0 : World} {G : Gs} {W : World} {σ : List Nat} {ρ : List Pl} {h : List Ent} (rel : Rel w0 G ρ h W) {vt vt' : List (Nat × Nat)} {i : Nat} {x y : CV} {o : Option VW} {u : Value} (hx : absX σ h vt i x = some (y, o, vt')) (hu : x.den ρ = some u) :
    ∃ ps, GoodXs σ ρ h W o.toList ps ∧ ∀ ρ0 : List Pl, (∀ (i k : Nat) (p : Pl), σ[i]? = some k → ρ[k]? = some p → ρ0[i]? = some p) → (∀ p, ps[0]? = some p → ρ0[i]? = some p) → y.den ρ0 = some u := by
  unfold absX at hx
  split at hx
  · split at hx
    · rename_i y' hy
      cases hx
      exact ⟨[], GoodXs.nil _ _ _ _, fun ρ0 hp _ => invC_ok hp hy hu⟩
    · cases hx
  · rename_i hm
    split at hx
    · rename_i ty sz vt0
      split at hx
      · split at hx
        · rename_i n g hv
          cases hx
          obtain ⟨p, g, rfl⟩ := viewD_own (σ := σ) rel ty hv hu fun k hk => by
            unfold mine at hm
            rw [hk] at hm
            simp only at hm
            split at hm
            · cases hm
            · rename_i hno; exact idxN_none hno
          refine ⟨[p], GoodXs.cons g (GoodXs.nil _ _ _ _), fun ρ0 _ hp => ?_⟩
          obtain ⟨a, cap, hpv, _⟩ := g.good.sl
          simp only [CV.den, hp p rfl]
          rw [if_pos (by rw [hpv]; rfl)]
        · cases hx
      split at hx
      · rename_i v hv
        cases hx
        obtain ⟨p, rfl, g, hsrc, hown⟩ := viewC_own rel hv hu
        refine ⟨[p], GoodXs.cons ⟨g, hsrc, fun hn hmem => ?_, fun g2 hg2 => by cases hg2⟩ (GoodXs.nil _ _ _ _), fun ρ0 _ hp => ?_⟩
        · obtain ⟨k, hk, hf⟩ := hown hn hmem
          refine ⟨k, ?_, hf⟩
          unfold mine at hm
          rw [hk] at hm
          simp only at hm
          split at hm
          · cases hm
          · rename_i hno; exact idxN_none hno
        · obtain ⟨a, cap, hpv, _⟩ := g.sl
          simp only [CV.den, hp p rfl]
          rw [if_pos (by rw [hpv]; rfl)]
      · cases hx
    · cases hx

theorem absY_ok {w0 : World} {G : Gs} {W : World} {σ : List Nat} {ρ : List Pl} {h : List Ent} (rel : Rel w0 G ρ h W) : ∀ {xs : List CV} {vt vt' : List (Nat × Nat)} {i : Nat} {ys : List CV} {ws : List VW} {us : List Value}, absY σ h vt i xs = some (ys, ws, vt') → IsL ρ xs us →
    ∃ ps, GoodXs σ ρ h W ws ps ∧ ∀ ρ0 : List Pl, (∀ (i k : Nat) (p : Pl), σ[i]? = some k → ρ[k]? = some p → ρ0[i]? = some p) → (∀ (j : Nat) (p : Pl), ps[j]? = some p → ρ0[i + j]? = some p) → IsL ρ0 ys us
  | [], vt, vt', i, ys, ws, us, hx, hu => by
    cases hx
    refine ⟨[], GoodXs.nil _ _ _ _, fun ρ0 _ _ => ?_⟩
    cases us <;> simp [IsL] at hu ⊢
  | x :: xs, vt, vt', i, ys, ws, us, hx, hu => by
    cases us with
    | nil => simp [IsL] at hu
    | cons u us =>
      simp only [IsL, List.map_cons, List.cons.injEq] at hu
      rw [absY] at hx
      split at hx
      · rename_i y vt1 h1
        split at hx
        · rename_i ys' ws' vt2 h2
          cases hx
          obtain ⟨ps, g, hp⟩ := absX_ok rel h1 hu.1
          obtain ⟨qs, g2, hq⟩ := absY_ok rel h2 hu.2
          have hps : ps = [] := by
            have := g.1
            cases ps with
            | nil => rfl
            | cons p ps => simp at this
          subst hps
          exact ⟨qs, g2, fun ρ0 k1 k2 => IsL.cons (hp ρ0 k1 (fun p h => by simp at h)) (hq ρ0 k1 k2)⟩
        · cases hx
      · rename_i y w vt1 h1
        split at hx
        · rename_i ys' ws' vt2 h2
          cases hx
          obtain ⟨ps, g, hp⟩ := absX_ok rel h1 hu.1
          obtain ⟨qs, g2, hq⟩ := absY_ok rel h2 hu.2
          obtain ⟨p, rfl⟩ : ∃ p, ps = [p] := by
            have := g.1
            match ps, this with
            | [p], _ => exact ⟨p, rfl⟩
          refine ⟨p :: qs, by simpa using g.append g2, fun ρ0 k1 k2 => IsL.cons (hp ρ0 k1 (fun p' hp' => ?_)) (hq ρ0 k1 fun j q hj => ?_)⟩
          · simp at hp'; subst hp'; simpa using k2 0 p rfl
          · have := k2 (j + 1) q (by simpa using hj)
            rwa [show i + (j + 1) = i + 1 + j by omega] at this
        · cases hx
      · cases hx
theorem absZ_ok {w0 : World} {G : Gs} {W : World} {σ : List Nat} {ρ : List Pl} {h : List Ent} (rel : Rel w0 G ρ h W) : ∀ {xs : List SV} {vt : List (Nat × Nat)} {i : Nat} {ys : List SV} {ws : List VW} {us : List Value}, absZ σ h vt i xs = some (ys, ws) → IsS ρ xs us →
    ∃ ps, GoodXs σ ρ h W ws ps ∧ ∀ ρ0 : List Pl, (∀ (i k : Nat) (p : Pl), σ[i]? = some k → ρ[k]? = some p → ρ0[i]? = some p) → (∀ (j : Nat) (p : Pl), ps[j]? = some p → ρ0[i + j]? = some p) → IsS ρ0 ys us
  | [], vt, i, ys, ws, us, hx, hu => by
    cases hx; cases hu
    exact ⟨[], GoodXs.nil _ _ _ _, fun _ _ _ => rfl⟩
  | .c x :: xs, vt, i, ys, ws, us, hx, hu => by
    obtain ⟨u, us', rfl, h1, h2⟩ := hu
    rw [absZ] at hx
    split at hx
    · rename_i y ws1 vt1 hr
      split at hx
      · rename_i ys' vs hr2
        cases hx
        obtain ⟨ps, g, hp⟩ := absY_ok rel hr (IsL.cons h1 (IsL.nil _))
        obtain ⟨qs, g2, hq⟩ := absZ_ok rel hr2 h2
        refine ⟨ps ++ qs, g.append g2, fun ρ0 k1 k2 => ⟨u, us', rfl, ?_, hq ρ0 k1 fun j p hj => ?_⟩⟩
        · have := hp ρ0 k1 fun j p hj => k2 j p (by rw [List.getElem?_append_left (List.getElem?_eq_some_iff.1 hj).1]; exact hj)
          simp only [IsL, List.map_cons, List.map_nil, List.cons.injEq] at this
          exact this.1
        · have := k2 (ps.length + j) p (by rw [List.getElem?_append_right (by omega)]; simpa using hj)
          rwa [g.1, ← Nat.add_assoc] at this
      · cases hx
    · cases hx
  | .agg cs :: xs, vt, i, ys, ws, us, hx, hu => by
    obtain ⟨u, us', rfl, ⟨cv, h1, rfl⟩, h2⟩ := hu
    rw [absZ] at hx
    split at hx
    · rename_i ds ws1 vt1 hr
      split at hx
      · rename_i ys' vs hr2
        cases hx
        obtain ⟨ps, g, hp⟩ := absY_ok rel hr h1
        obtain ⟨qs, g2, hq⟩ := absZ_ok rel hr2 h2
        refine ⟨ps ++ qs, g.append g2, fun ρ0 k1 k2 => ⟨_, us', rfl, ⟨cv, ?_, rfl⟩, hq ρ0 k1 fun j p hj => ?_⟩⟩
        · exact hp ρ0 k1 fun j p hj => k2 j p (by rw [List.getElem?_append_left (List.getElem?_eq_some_iff.1 hj).1]; exact hj)
        · have := k2 (ps.length + j) p (by rw [List.getElem?_append_right (by omega)]; simpa using hj)
          rwa [g.1, ← Nat.add_assoc] at this
      · cases hx
    · cases hx
  | .fn f cs :: xs, vt, i, ys, ws, us, hx, hu => by
    obtain ⟨u, us', rfl, ⟨cv, h1, rfl⟩, h2⟩ := hu
    rw [absZ] at hx
    split at hx
    · rename_i ds ws1 vt1 hr
      split at hx
      · rename_i ys' vs hr2
        cases hx
        obtain ⟨ps, g, hp⟩ := absY_ok rel hr h1
        obtain ⟨qs, g2, hq⟩ := absZ_ok rel hr2 h2
        refine ⟨ps ++ qs, g.append g2, fun ρ0 k1 k2 => ⟨_, us', rfl, ⟨cv, ?_, rfl⟩, hq ρ0 k1 fun j p hj => ?_⟩⟩
        · exact hp ρ0 k1 fun j p hj => k2 j p (by rw [List.getElem?_append_left (List.getElem?_eq_some_iff.1 hj).1]; exact hj)
        · have := k2 (ps.length + j) p (by rw [List.getElem?_append_right (by omega)]; simpa using hj)
          rwa [g.1, ← Nat.add_assoc] at this
      · cases hx
    · cases hx
  | .tup _ :: _, _, _, _, _, _, hx, _ => by simp [absZ] at hx
  | .und :: _, _, _, _, _, _, hx, _ => by simp [absZ] at hx
  | .any :: _, _, _, _, _, _, hx, _ => by simp [absZ] at hx

/-! ### What comes back -/
def renEnt (τ : List Nat) : Ent → Ent
  | .cells t cs => .cells t (renL τ cs)
  | x => x
theorem ren_get {τ : List Nat} {ρ ρ1 : List Pl} (hp : ∀ (k : Nat) (p : Pl), ρ[k]? = some p → ρ1[τ.getD k 0]? = some p) {x : CV} {u : Value} (d : x.den ρ = some u) : (renC τ x).den ρ1 = some u := by
  have key : ∀ (k : Nat) (f : Pl → Option Value), (match ρ[k]? with | some p => f p | none => none) = some u → (match ρ1[τ.getD k 0]? with | some p => f p | none => none) = some u := fun k f hd => by
    cases hk : ρ[k]? with
    | none => rw [hk] at hd; cases hd
    | some p =>
      rw [hk] at hd
      rw [hp k p hk]
      exact hd
  cases x with
  | ptr k o => exact key k (fun p => some (.pointer (some ⟨p.b, o, none⟩))) d
  | row k => exact key k (fun p => if one p.v then some p.v else none) d
  | sl k o l c => exact key k (fun p => some (.slice (some ⟨p.b, o, none⟩) l c)) d
  | eptr k j s o => exact key k (fun p => some (.pointer (some ⟨p.b, p.o + j * s + o, none⟩))) d
  | aptr k j o m => exact key k (fun p => some (.pointer (some ⟨p.b, o + j, none⟩))) d
  | vsl k j o m => exact key k (fun p => subV p.v j o m) d
  | _ => exact d
theorem renL_get {τ : List Nat} {ρ ρ1 : List Pl} (hp : ∀ (k : Nat) (p : Pl), ρ[k]? = some p → ρ1[τ.getD k 0]? = some p) : ∀ {xs : List CV} {us : List Value}, IsL ρ xs us → IsL ρ1 (renL τ xs) us
  | [], us, d => d
  | x :: xs, us, d => by
    cases us with
    | nil => simp [IsL] at d
    | cons u us =>
      simp only [IsL, List.map_cons, List.cons.injEq] at d
      exact IsL.cons (ren_get hp d.1) (renL_get hp d.2)
theorem renE_get {τ : List Nat} {ρ ρ1 : List Pl} (hp : ∀ (k : Nat) (p : Pl), ρ[k]? = some p → ρ1[τ.getD k 0]? = some p) : ∀ {xs : List (Option CV × List CV)} {us : List Value}, Elts ρ xs us → Elts ρ1 (renE τ xs) us
  | [], us, d => d
  | (some x, cs) :: xs, us, d => by
    obtain ⟨u, us', rfl, h1, h2⟩ := d
    exact ⟨u, us', rfl, ren_get hp h1, renE_get hp h2⟩
  | (none, cs) :: xs, us, d => by
    obtain ⟨u, us', rfl, ⟨vs, g1, g2⟩, h2⟩ := d
    exact ⟨u, us', rfl, ⟨vs, renL_get hp g1, g2⟩, renE_get hp h2⟩
theorem renV_get {τ : List Nat} {ρ ρ1 : List Pl} (hp : ∀ (k : Nat) (p : Pl), ρ[k]? = some p → ρ1[τ.getD k 0]? = some p) {x : SV} {u : Value} (d : x.is ρ u) : (renV τ x).is ρ1 u := by
  cases x with
  | c x => exact ren_get hp d
  | agg cs => obtain ⟨vs, h1, h2⟩ := d; exact ⟨vs, renL_get hp h1, h2⟩
  | tup vs => obtain ⟨us, h1, h2⟩ := d; exact ⟨us, renE_get hp h1, h2⟩
  | fn f cs => obtain ⟨vs, h1, h2⟩ := d; exact ⟨vs, renL_get hp h1, h2⟩
  | und => exact d
  | any => trivial
theorem renEnt_ok {τ : List Nat} {ρ ρ1 : List Pl} (hp : ∀ (k : Nat) (p : Pl), ρ[k]? = some p → ρ1[τ.getD k 0]? = some p) {e : Ent} {p : Pl} {W : World} (d : e.ok ρ p W) : (renEnt τ e).ok ρ1 p W := by
  cases e with
  | cells t cs => obtain ⟨vs, h1, h2⟩ := d; exact ⟨vs, renL_get hp h1, h2⟩
  | row e sz n g => exact d
  | bytes e l => exact d
  | elems t s n g => exact d
  | glob g s n get => exact d
  | data fr ty sz n get => exact d
  | orow ty sz n get => exact d
  | dead => exact d
  | mp gs l => exact d
  | mq t l => exact d
theorem renEnt_fp {τ : List Nat} {e : Ent} {p : Pl} : (renEnt τ e).fp p = e.fp p ∧ (renEnt τ e).isElems = e.isElems ∧ (renEnt τ e).dep p = e.dep p := by
  cases e <;> exact ⟨rfl, rfl, rfl⟩

/-- The entries σ, as they came back; what is only read stays as it was. -/
def putAll (τ : List Nat) : List Nat → List Ent → List Ent → List Ent
  | k :: ks, e :: es, h => match h[k]? with
    | some e0 => match e0.isElems with
      | true => putAll τ ks es h
      | false => putAll τ ks es (h.set k (renEnt τ e))
    | none => putAll τ ks es h
  | _, _, h => h
theorem putAll_len {τ : List Nat} : ∀ {ks : List Nat} {es h : List Ent}, (putAll τ ks es h).length = h.length
  | [], _, h => by simp [putAll]
  | k :: ks, [], h => by simp [putAll]
  | k :: ks, e :: es, h => by
    simp only [putAll]
    split
    · split
      · exact putAll_len
      · rw [putAll_len]; simp
    · exact putAll_len
theorem putAll_not {τ : List Nat} : ∀ {ks : List Nat} {es h : List Ent} {j : Nat}, j ∉ ks → (putAll τ ks es h)[j]? = h[j]?
  | [], _, h, j, _ => by simp [putAll]
  | k :: ks, [], h, j, _ => by simp [putAll]
  | k :: ks, e :: es, h, j, hj => by
    simp only [List.mem_cons, not_or] at hj
    simp only [putAll]
    split
    · split
      · exact putAll_not hj.2
      · rw [putAll_not hj.2, List.getElem?_set_ne (fun e => hj.1 e.symm)]
    · exact putAll_not hj.2
theorem putAll_get {τ : List Nat} : ∀ {ks : List Nat} {es h : List Ent} {i k : Nat} {e e0 : Ent}, ks.Nodup → ks[i]? = some k → es[i]? = some e → h[k]? = some e0 → (putAll τ ks es h)[k]? = some (if e0.isElems = true then e0 else renEnt τ e)
  | [], _, h, i, k, e, e0, _, hk, _, _ => by simp at hk
  | k' :: ks, [], h, i, k, e, e0, _, _, he, _ => by simp at he
  | k' :: ks, e' :: es, h, i, k, e, e0, hd, hk, he, h0 => by
    rw [List.nodup_cons] at hd
    cases i with
    | zero =>
      simp at hk he
      subst hk he
      simp only [putAll, h0]
      split
      · rename_i hel
        rw [putAll_not hd.1, h0, if_pos hel]
      · rename_i hel
        rw [putAll_not hd.1, List.getElem?_set_self (List.getElem?_eq_some_iff.1 h0).1, if_neg (by simp [hel])]
    | succ i =>
      simp only [List.getElem?_cons_succ] at hk he
      have hne : k' ≠ k := fun e => hd.1 (e ▸ (List.getElem?_eq_some_iff.1 hk).2 ▸ List.getElem_mem _)
      simp only [putAll]
      split
      · split
        · exact putAll_get hd.2 hk he h0
        · exact putAll_get hd.2 hk he (by rw [List.getElem?_set_ne hne]; exact h0)
      · exact putAll_get hd.2 hk he h0

/-- What a call may hand out: nothing that is only read, but data that lie still. -/
def Ent.keptE : Ent → Bool
  | .glob .. => true
  | .orow .. => true
  | _ => false
def noKept : List Ent → Bool
  | [] => true
  | e :: es => !e.keptE && noKept es
theorem noKept_get {es : List Ent} (h : noKept es = true) {k : Nat} {e : Ent} (hk : es[k]? = some e) : e.keptE = false := by
  induction es generalizing k with
  | nil => simp at hk
  | cons x xs ih =>
    simp only [noKept, Bool.and_eq_true, Bool.not_eq_true'] at h
    cases k with
    | zero => simp at hk; subst hk; exact h.1
    | succ k => exact ih h.2 (by simpa using hk)
def Ent.isOld : Ent → Bool
  | .elems .. => true
  | .data false .. => true
  | .mq .. => true
  | _ => false
/-- Are old data handed out? -/
def hasOld : List Ent → Bool
  | [] => false
  | e :: es => match e.isOld with
    | true => true
    | false => hasOld es
theorem hasOld_get {es : List Ent} {k : Nat} {e : Ent} (hk : es[k]? = some e) (h : e.isOld = true) : hasOld es = true := by
  induction es generalizing k with
  | nil => simp at hk
  | cons x xs ih =>
    simp only [hasOld]
    cases k with
    | zero => simp at hk; subst hk; rw [h]
    | succ k =>
      split
      · rfl
      · exact ih (by simpa using hk)
/-- Do the slices handed over by value lie still? -/
def stillW (h : List Ent) : List VW → Bool
  | [] => true
  | w :: ws => (match w.s with
    | some k => match h[k]? with
      | some e => e.isElems
      | none => false
    | none => Nat.beq w.v.1 0) && stillW h ws
theorem stillW_get {h : List Ent} : ∀ {ws : List VW} {i : Nat} {w : VW}, stillW h ws = true → ws[i]? = some w → (∃ k e, w.s = some k ∧ h[k]? = some e ∧ e.isElems = true) ∨ w.v.1 = 0
  | [], i, w, _, hi => by simp at hi
  | x :: xs, i, w, hs, hi => by
    simp only [stillW, Bool.and_eq_true] at hs
    cases i with
    | succ i => exact stillW_get hs.2 (by simpa using hi)
    | zero =>
      simp at hi; subst hi
      obtain ⟨h1, _⟩ := hs
      split at h1
      · rename_i k hk
        split at h1
        · rename_i e he
          exact Or.inl ⟨k, e, hk, he, h1⟩
        · cases h1
      · exact Or.inr (by simpa using h1)
/-- Where a slice handed over by value comes from. -/
def WFrom (h : List Ent) (w : VW) : Prop := ∀ k, w.s = some k → match w.d with
  | none => viewC w.sz h (.row k) = some w.v
  | some g => viewD w.sz h (.row k) = some (w.v.1, g)
theorem absX_from {σ : List Nat} {h : List Ent} {vt vt' : List (Nat × Nat)} {i : Nat} {x y : CV} {w : VW} (hx : absX σ h vt i x = some (y, some w, vt')) : WFrom h w := by
  have hrow : ∀ {x : CV} {k : Nat}, isRow x = some k → x = .row k := fun {x k} hk => by
    cases x with
    | row j => simp only [isRow, Option.some.injEq] at hk; rw [hk]
    | _ => cases hk
  unfold absX at hx
  split at hx
  · split at hx <;> cases hx
  · split at hx
    · split at hx
      · split at hx
        · rename_i n g hv
          cases hx
          intro k hk
          show viewD _ h (.row k) = some (n, g)
          rw [← hrow hk]; exact hv
        · cases hx
      · split at hx
        · rename_i v hv
          cases hx
          intro k hk
          show viewC _ h (.row k) = some v
          rw [← hrow hk]; exact hv
        · cases hx
    · cases hx
theorem absY_from {σ : List Nat} {h : List Ent} : ∀ {xs : List CV} {vt vt' : List (Nat × Nat)} {i : Nat} {ys : List CV} {ws : List VW}, absY σ h vt i xs = some (ys, ws, vt') → ∀ w ∈ ws, WFrom h w
  | [], vt, vt', i, ys, ws, hx => by cases hx; simp
  | x :: xs, vt, vt', i, ys, ws, hx => by
    rw [absY] at hx
    split at hx
    · rename_i hx1
      split at hx
      · rename_i hx2
        cases hx
        exact absY_from hx2
      · cases hx
    · rename_i hx1
      split at hx
      · rename_i hx2
        cases hx
        intro w hw
        rcases List.mem_cons.1 hw with rfl | hw
        · exact absX_from hx1
        · exact absY_from hx2 w hw
      · cases hx
    · cases hx
theorem absZ_from {σ : List Nat} {h : List Ent} : ∀ {xs : List SV} {vt : List (Nat × Nat)} {i : Nat} {ys : List SV} {ws : List VW}, absZ σ h vt i xs = some (ys, ws) → ∀ w ∈ ws, WFrom h w
  | [], vt, i, ys, ws, hx => by cases hx; simp
  | .c x :: xs, vt, i, ys, ws, hx => by
    rw [absZ] at hx
    split at hx
    · rename_i hr
      split at hx
      · rename_i hr2
        cases hx
        intro w hw
        rcases List.mem_append.1 hw with hw | hw
        · exact absY_from hr w hw
        · exact absZ_from hr2 w hw
      · cases hx
    · cases hx
  | .agg cs :: xs, vt, i, ys, ws, hx => by
    rw [absZ] at hx
    split at hx
    · rename_i hr
      split at hx
      · rename_i hr2
        cases hx
        intro w hw
        rcases List.mem_append.1 hw with hw | hw
        · exact absY_from hr w hw
        · exact absZ_from hr2 w hw
      · cases hx
    · cases hx
  | .fn f cs :: xs, vt, i, ys, ws, hx => by
    rw [absZ] at hx
    split at hx
    · rename_i hr
      split at hx
      · rename_i hr2
        cases hx
        intro w hw
        rcases List.mem_append.1 hw with hw | hw
        · exact absY_from hr w hw
        · exact absZ_from hr2 w hw
      · cases hx
    · cases hx
  | .tup _ :: _, _, _, _, _, hx => by simp [absZ] at hx
  | .und :: _, _, _, _, _, hx => by simp [absZ] at hx
  | .any :: _, _, _, _, _, hx => by simp [absZ] at hx
/-- What lies still with the caller lies still with the function. -/
theorem still_dat {w0 : World} {G : Gs} {W : World} {ρ : List Pl} {h : List Ent} (rel : Rel w0 G ρ h W) {w : VW} {p : Pl} {k : Nat} {e : Ent} (hf : WFrom h w) (hs : w.s = some k) (he : h[k]? = some e) (hel : e.isElems = true) (hp : ρ[k]? = some p) {D' : Bool → Nat → Prop} (hD : ∀ fr b, Dom w0 G ρ h W fr b → D' false b) : w.ent.dat W D' p := by
  have hd := rel.dat k e p he hp
  have hw := hf k hs
  cases hdd : w.d with
  | none =>
    rw [hdd] at hw
    replace hw : viewC w.sz h (.row k) = some w.v := hw
    simp only [viewC, he, Option.bind_some] at hw
    unfold VW.ent
    rw [hdd]
    cases e with
    | elems ty sz n get =>
      simp only [Ent.view] at hw
      split at hw
      · intro h0
        have e1 := congrArg Prod.fst (Option.some.inj hw)
        exact hD _ _ (hd (by show 0 < n; rw [show n = w.v.1 from e1]; exact h0))
      · cases hw
    | data fr ty sz n get => simp [Ent.view] at hw
    | glob g sz n get => simp [Ent.view] at hw
    | _ => cases hel
  | some g =>
    rw [hdd] at hw
    replace hw : viewD w.sz h (.row k) = some (w.v.1, g) := hw
    simp only [viewD, he, Option.bind_some] at hw
    unfold VW.ent
    rw [hdd]
    cases e with
    | data fr ty sz n get =>
      simp only [Ent.dview] at hw
      split at hw
      · rename_i hb
        have hsz : w.sz = sz := by simpa using hb
        cases hw
        rw [hsz]
        exact Cell.shows_old (c := .ns fr w.ty sz w.v.1 _) (fun fr b hb => ⟨hD fr b hb, rfl⟩) hd
      · cases hw
    | elems ty sz n get => simp [Ent.dview] at hw
    | glob g sz n get => simp [Ent.dview] at hw
    | _ => cases hel
theorem nil_dat {w : VW} {W : World} {p : Pl} (h : w.v.1 = 0) (hsl : ∃ a cap, p.v = .slice a w.v.1 cap ∧ w.v.1 ≤ cap ∧ (0 < w.v.1 → a = some ⟨p.b, p.o, none⟩)) {D' : Bool → Nat → Prop} : w.ent.dat W D' p := by
  unfold VW.ent
  split
  · intro h0; rw [h] at h0; cases h0
  · obtain ⟨a, cap, h1, h2, _⟩ := hsl
    exact ⟨a, cap, h1, h2, fun h0 => by rw [h] at h0; cases h0⟩

abbrev SpecF := List SV → List Ent → Option (Prop × SV × List Ent)
/-- A function: its arguments with what they hang on, its result with what there is behind. vt: type and size of the elements of the slices that it is handed by value; gs: the variables of the package that it reads. -/
structure Fn (P : Program) (f : FuncId) (gs : List Nat) (vt : List (Nat × Nat)) (spec : SpecF) : Prop where
  fn : callable P f = true
  no : ∀ args h pre res h', spec args h = some (pre, res, h') → noKept h' = true ∧ h.length ≤ h'.length
  go : ∀ args h pre res h', spec args h = some (pre, res, h') → pre → ∀ (o : Nat → Prop) ρ W us, Rel W ⟨Fps ρ h, o⟩ ρ h W → IsS ρ args us → Calls P f us.toArray W fun e W' => ∃ u ρ', e = .returned u ∧ res.is (ρ ++ ρ') u ∧ Rel W ⟨Fps ρ h, o⟩ (ρ ++ ρ') h' W'
theorem Fn.run {P : Program} {f : FuncId} {gs : List Nat} {vt : List (Nat × Nat)} {spec : SpecF} (m : Fn P f gs vt spec) : ∀ args h pre res h', spec args h = some (pre, res, h') → pre → ∀ ρ W us, Rel W (Fps ρ h) ρ h W → IsS ρ args us → Calls P f us.toArray W fun e W' => ∃ u ρ', e = .returned u ∧ res.is (ρ ++ ρ') u ∧ Rel W (Fps ρ h) (ρ ++ ρ') h' W' :=
  fun args h pre res h' hs hp => m.go args h pre res h' hs hp fun _ => True

def srcs (n : Nat) : List VW → List Nat
  | [] => []
  | w :: ws => (match w.s with
    | some k => k
    | none => n) :: srcs (n + 1) ws
def seqN : Nat → Nat → List Nat
  | _, 0 => []
  | a, n + 1 => a :: seqN (a + 1) n
def deadN : List VW → List Ent
  | [] => []
  | _ :: ws => .dead :: deadN ws
def entsW : List VW → List Ent
  | [] => []
  | w :: ws => w.ent :: entsW ws
def renEs (τ : List Nat) : List Ent → List Ent
  | [] => []
  | e :: es => renEnt τ e :: renEs τ es
theorem entsW_map : ∀ ws : List VW, entsW ws = ws.map VW.ent
  | [] => rfl
  | w :: ws => by rw [entsW, List.map_cons, entsW_map ws]
theorem renEs_map (τ : List Nat) : ∀ ws : List Ent, renEs τ ws = ws.map (renEnt τ)
  | [] => rfl
  | w :: ws => by rw [renEs, List.map_cons, renEs_map τ ws]
theorem deadN_map : ∀ ws : List VW, deadN ws = ws.map fun _ => Ent.dead
  | [] => rfl
  | w :: ws => by rw [deadN, List.map_cons, deadN_map ws]
theorem seqN_get : ∀ (n a i : Nat), i < n → (seqN a n)[i]? = some (a + i)
  | 0, _, _, h => by omega
  | n + 1, a, 0, _ => rfl
  | n + 1, a, i + 1, h => by
    rw [seqN, List.getElem?_cons_succ, seqN_get n (a + 1) i (by omega)]
    congr 1
    omega
theorem srcs_len : ∀ (ws : List VW) (n : Nat), (srcs n ws).length = ws.length
  | [], _ => rfl
  | w :: ws, n => by rw [srcs, List.length_cons, List.length_cons, srcs_len]
theorem srcs_get : ∀ (ws : List VW) (n i : Nat) (w : VW), ws[i]? = some w → (srcs n ws)[i]? = some (match w.s with | some k => k | none => n + i)
  | [], _, _, _, h => by simp at h
  | x :: ws, n, 0, w, h => by
    simp at h; subst h
    simp [srcs]
  | x :: ws, n, i + 1, w, h => by
    rw [srcs, List.getElem?_cons_succ, srcs_get ws (n + 1) i w (by simpa using h)]
    cases w.s with
    | some k => rfl
    | none => show some (n + 1 + i) = some (n + (i + 1)); congr 1; omega

def tauOf (σ : List Nat) (ws : List VW) (n k : Nat) : List Nat := σ ++ (srcs n ws ++ seqN (n + ws.length) (k - (σ.length + ws.length)))
noncomputable def appFn (gs : List Nat) (vt : List (Nat × Nat)) (spec : SpecF) : App := fun args h =>
  let σ := clos h (h.length + 1) 0 (rootS (rootG h [] gs) args)
  match nodupB σ with
  | true => match invH σ h σ with
    | some h0 => match absZ σ h vt σ.length args with
      | some (as, ws) => match spec as (h0 ++ entsW ws) with
        | some (pre, res, h') => match !hasOld h' || stillW h ws with
          | true =>
            let τ := tauOf σ ws h.length h'.length
            some ⟨pre, renV τ res, putAll τ σ h' h ++ (deadN ws ++ renEs τ (h'.drop (σ.length + ws.length))), σ⟩
          | false => none
        | none => none
      | none => none
    | none => none
  | false => none

theorem tau_lo {σ : List Nat} {ws : List VW} {n m k : Nat} (c : k < σ.length) : (tauOf σ ws n m).getD k 0 = σ[k] := by
  unfold tauOf
  rw [List.getD_eq_getElem?_getD, List.getElem?_append_left c, List.getElem?_eq_getElem c]
  rfl
theorem tau_mid {σ : List Nat} {ws : List VW} {n m k : Nat} {w : VW} (c : σ.length ≤ k) (hw : ws[k - σ.length]? = some w) : (tauOf σ ws n m).getD k 0 = (match w.s with | some k => k | none => n + (k - σ.length)) := by
  unfold tauOf
  rw [List.getD_eq_getElem?_getD, List.getElem?_append_right c, List.getElem?_append_left (by rw [srcs_len]; exact (List.getElem?_eq_some_iff.1 hw).1), srcs_get ws n _ w hw]
  rfl
theorem tau_hi {σ : List Nat} {ws : List VW} {n m k : Nat} (c : σ.length + ws.length ≤ k) (hm : k < m) : (tauOf σ ws n m).getD k 0 = n + ws.length + (k - (σ.length + ws.length)) := by
  unfold tauOf
  rw [List.getD_eq_getElem?_getD, List.getElem?_append_right (by omega), List.getElem?_append_right (by rw [srcs_len]; omega), srcs_len, seqN_get _ _ _ (by omega)]
  show n + ws.length + (k - σ.length - ws.length) = _
  omega
theorem isElems_fp {e : Ent} {p : Pl} {b : Nat} (h : e.isElems = true) (k : e.fp p = some b) : False := by
  cases e <;> first | (cases h; done) | (simp [Ent.fp] at k; done)

theorem Fn.ct {P : Program} {f : FuncId} {gs : List Nat} {vt : List (Nat × Nat)} {spec : SpecF} (m : Fn P f gs vt spec) : CtOk P f (appFn gs vt spec) := by
  have hsp : ∀ args hp r, appFn gs vt spec args hp = some r → ∃ σ h0 as ws res h', nodupB σ = true ∧ invH σ hp σ = some h0 ∧ absZ σ hp vt σ.length args = some (as, ws) ∧ spec as (h0 ++ entsW ws) = some (r.pre, res, h') ∧
      r.res = renV (tauOf σ ws hp.length h'.length) res ∧ r.h = putAll (tauOf σ ws hp.length h'.length) σ h' hp ++ (deadN ws ++ renEs (tauOf σ ws hp.length h'.length) (h'.drop (σ.length + ws.length))) ∧ r.ms = σ ∧ (!hasOld h' || stillW hp ws) = true := fun args hp r hr => by
    unfold appFn at hr
    dsimp only at hr
    split at hr
    · rename_i h1
      split at hr
      · rename_i h0 h2
        split at hr
        · rename_i as ws h3
          split at hr
          · rename_i pre res h' h4
            split at hr
            · rename_i h5
              cases hr
              exact ⟨_, h0, as, ws, res, h', h1, h2, h3, h4, rfl, rfl, rfl, h5⟩
            · cases hr
          · cases hr
        · cases hr
      · cases hr
    · cases hr
  refine ⟨callable_spec m.fn, fun args hp r hr => ?_, fun args hp r hr hpre w0 G ρ W us rel hs => ?_⟩
  · obtain ⟨σ, h0, as, ws, res, h', h1, h2, h3, h4, h5, h6, h7, h8⟩ := hsp args hp r hr
    have hd := nodupB_ok h1
    obtain ⟨n1, n2⟩ := m.no _ _ _ _ _ h4
    obtain ⟨g1, g2⟩ := invH_get h2
    rw [h6, h7]
    refine ⟨by simp [putAll_len], fun k hk hne => ?_⟩
    rw [List.getElem?_append_left (by rw [putAll_len]; exact hk), putAll_not hne]
  · obtain ⟨σ, h0, as, ws, res, h', h1, h2, h3, h4, h5, h6, h7, h8⟩ := hsp args hp r hr
    have hd := nodupB_ok h1
    obtain ⟨n1, n2⟩ := m.no _ _ _ _ _ h4
    obtain ⟨g1, g2⟩ := invH_get h2
    obtain ⟨ps, hg, hq⟩ := absZ_ok rel h3 hs
    have hpslen : ps.length = ws.length := hg.1
    have hplen : (pick σ ρ).length = σ.length := by simp [pick]
    have hσlt : ∀ {i k : Nat}, σ[i]? = some k → k < hp.length := fun {i k} hi => by
      have hil : i < h0.length := by rw [g1]; exact (List.getElem?_eq_some_iff.1 hi).1
      obtain ⟨k', e, a1, a2, _⟩ := g2 i _ (List.getElem?_eq_getElem hil)
      rw [hi] at a1
      cases a1
      exact (List.getElem?_eq_some_iff.1 a2).1
    have hpl : ∀ (i k : Nat) (p : Pl), σ[i]? = some k → ρ[k]? = some p → (pick σ ρ ++ ps)[i]? = some p := fun i k p hi hk => by
      rw [List.getElem?_append_left (by rw [hplen]; exact (List.getElem?_eq_some_iff.1 hi).1)]
      exact pick_get hi hk
    have hpl' : ∀ {i k : Nat} {q : Pl}, σ[i]? = some k → (pick σ ρ ++ ps)[i]? = some q → ρ[k]? = some q := fun {i k q} hi hq' => by
      have hk : k < ρ.length := by rw [rel.len]; exact hσlt hi
      have := hpl i k _ hi (List.getElem?_eq_getElem hk)
      rw [this] at hq'
      rw [List.getElem?_eq_getElem hk]; exact hq'
    have hargs : IsS (pick σ ρ ++ ps) as us := hq _ hpl fun j p hj => by
      rw [List.getElem?_append_right (by rw [hplen]; omega), hplen]
      simpa using hj
    have hcase : ∀ {j : Nat} {x : Ent} {q : Pl}, (h0 ++ entsW ws)[j]? = some x → (pick σ ρ ++ ps)[j]? = some q → (∃ k e, σ[j]? = some k ∧ hp[k]? = some e ∧ ρ[k]? = some q ∧ invE σ e = some x) ∨ (∃ i w, j = σ.length + i ∧ ws[i]? = some w ∧ ps[i]? = some q ∧ x = w.ent) := fun {j x q} hx hq' => by
      by_cases hj : j < σ.length
      · rw [List.getElem?_append_left (by rw [g1]; exact hj)] at hx
        obtain ⟨k, e, a1, a2, a3⟩ := g2 j x hx
        exact Or.inl ⟨k, e, a1, a2, hpl' a1 hq', a3⟩
      · rw [List.getElem?_append_right (by omega), g1, entsW_map, List.getElem?_map] at hx
        rw [List.getElem?_append_right (by omega), hplen] at hq'
        cases hw : ws[j - σ.length]? with
        | none => rw [hw] at hx; cases hx
        | some w => rw [hw] at hx; exact Or.inr ⟨j - σ.length, w, by omega, hw, hq', (Option.some.inj hx).symm⟩
    have hfp : ∀ {j b : Nat}, fp (pick σ ρ ++ ps) (h0 ++ entsW ws) j = some b → ∃ k, σ[j]? = some k ∧ fp ρ hp k = some b := fun {j b} hf => by
      obtain ⟨x, q, hx, hq', hb⟩ := fp_some hf
      rcases hcase hx hq' with ⟨k, e, a1, a2, a3, a4⟩ | ⟨i, w, _, _, _, rfl⟩
      · refine ⟨k, a1, ?_⟩
        rw [fp_mk a2 a3, ← (invE_ok hpl a4 (rel.ok k e q a2 a3)).2.1]
        exact hb
      · unfold VW.ent at hb
        split at hb <;> cases hb
    have hG : ∀ {b : Nat}, b ∈ Fps (pick σ ρ ++ ps) (h0 ++ entsW ws) → ∃ k, k ∈ σ ∧ fp ρ hp k = some b := fun {b} hb => by
      obtain ⟨j, hj⟩ := mem_Fps.1 hb
      obtain ⟨k, a1, a2⟩ := hfp hj
      exact ⟨k, List.mem_of_getElem? a1, a2⟩
    obtain ⟨o, ho1, ho2, ho3⟩ : ∃ o : Nat → Prop, (hasOld h' = true → ∀ b, o b → Dom w0 G ρ hp W false b) ∧ (∀ fr b, Dom w0 G ρ hp W fr b → o b) ∧ ((∀ b, o b) ∨ ∀ (i : Nat) (w : VW) (q : Pl), ws[i]? = some w → ps[i]? = some q → ∀ D' : Bool → Nat → Prop, (∀ fr b, Dom w0 G ρ hp W fr b → D' false b) → w.ent.dat W D' q) := by
      cases hold : hasOld h' with
      | false => exact ⟨fun _ => True, fun h => (by cases h), fun _ _ _ => trivial, Or.inl fun _ => trivial⟩
      | true =>
        rw [hold] at h8
        refine ⟨Dom w0 G ρ hp W false, fun _ b hb => hb, fun fr b hb => Dom.weak hb, Or.inr fun i w q hw hq D' hD => ?_⟩
        have gx := hg.2 i w q hw hq
        rcases stillW_get (by simpa using h8) hw with ⟨k, e, c1, c2, c3⟩ | c
        · exact still_dat rel (absZ_from h3 w (List.mem_of_getElem? hw)) c1 c2 c3 (gx.src k c1) hD
        · exact nil_dat c gx.good.sl
    have rel0 : Rel W ⟨Fps (pick σ ρ ++ ps) (h0 ++ entsW ws), o⟩ (pick σ ρ ++ ps) (h0 ++ entsW ws) W := by
      refine ⟨by rw [List.length_append, List.length_append, hplen, g1, hpslen, entsW_map, List.length_map], fun j x q hx hq' => ?_, fun j b hf => ?_, fun i j b hi hj => ?_, fun _ _ _ => rfl, fun j x q hx hq' => ?_, rfl, rfl, rfl, Nat.le_refl _⟩
      · rcases hcase hx hq' with ⟨k, e, a1, a2, a3, a4⟩ | ⟨i, w, _, a2, a3, rfl⟩
        · exact (invE_ok hpl a4 (rel.ok k e q a2 a3)).1
        · have gx := (hg.2 i w q a2 a3).good
          unfold VW.ent
          split
          · exact ⟨gx.sl, gx.get⟩
          · exact gx.sl
      · obtain ⟨k, _, a2⟩ := hfp hf
        exact ⟨(rel.own k b a2).1, Or.inl (mem_Fps.2 ⟨j, hf⟩)⟩
      · obtain ⟨k, a1, a2⟩ := hfp hi
        obtain ⟨k', b1, b2⟩ := hfp hj
        have := rel.dis k k' b a2 b2
        subst this
        exact (List.getElem?_inj (List.getElem?_eq_some_iff.1 a1).1 hd).1 (a1.trans b1.symm)
      · rcases hcase hx hq' with ⟨k, e, a1, a2, a3, a4⟩ | ⟨i, w, _, a2, a3, rfl⟩
        · refine invE_dat (fun fr b hb => ?_) a4 (rel.dat k e q a2 a3)
          obtain ⟨d1, d2, _⟩ := Dom.own rel hb
          refine Or.inl ⟨d1, fun hm => ?_, ho2 _ _ hb⟩
          obtain ⟨k', _, d3⟩ := hG hm
          exact d2 k' d3
        · have gx := hg.2 i w q a2 a3
          rcases ho3 with ht | ht
          rotate_left
          · refine ht i w q a2 a3 _ fun fr b hb => ?_
            obtain ⟨d1, d2, _⟩ := Dom.own rel hb
            refine Or.inl ⟨d1, fun hm => ?_, ho2 _ _ hb⟩
            obtain ⟨k', _, d3⟩ := hG hm
            exact d2 k' d3
          unfold VW.ent
          split
          rotate_left
          · rename_i g2 hg2
            refine Cell.shows_mono (c := .ns false w.ty w.sz w.v.1 fun i j => (g2 i j).old) (fun fr b hb => ⟨?_, rfl⟩) (gx.da g2 hg2)
            obtain ⟨rfl, hb1, hb2⟩ := hb
            exact Or.inl ⟨hb1, fun hm => by
              obtain ⟨k', d1, d2⟩ := hG hm
              exact hb2 k' d1 d2, ht _⟩
          intro hn
          refine Or.inl ⟨gx.good.lt hn, fun hm => ?_, ht _⟩
          obtain ⟨k', d1, d2⟩ := hG hm
          obtain ⟨k2, f1, f2⟩ := gx.own hn (mem_Fps.2 ⟨k', d2⟩)
          have := rel.dis k' k2 _ d2 f2
          subst this
          exact f1 d1
    refine Calls.mono (m.go as _ _ res h' h4 hpre o _ W us rel0 hargs) fun en W' he => ?_
    obtain ⟨u, ρ', rfl, hres, rel'⟩ := he
    have hlen' : σ.length + ws.length + ρ'.length = h'.length := by
      have := rel'.len
      rw [List.length_append, List.length_append, hplen, hpslen] at this
      exact this
    have hlenρ : ρ.length = hp.length := rel.len
    have hτ : ∀ (k : Nat) (p : Pl), (pick σ ρ ++ ps ++ ρ')[k]? = some p → (ρ ++ (ps ++ ρ'))[(tauOf σ ws hp.length h'.length).getD k 0]? = some p := fun k p hk => by
      have hkl : k < h'.length := by
        have := (List.getElem?_eq_some_iff.1 hk).1
        rw [List.length_append, List.length_append, hplen, hpslen] at this
        omega
      by_cases c1 : k < σ.length
      · rw [tau_lo c1]
        rw [List.append_assoc, List.getElem?_append_left (by rw [hplen]; exact c1)] at hk
        have hs := List.getElem?_eq_getElem c1
        have : ρ[σ[k]]? = some p := hpl' hs (by rw [List.getElem?_append_left (by rw [hplen]; exact c1)]; exact hk)
        rw [List.getElem?_append_left (List.getElem?_eq_some_iff.1 this).1]
        exact this
      · by_cases c2 : k < σ.length + ws.length
        · rw [List.append_assoc, List.getElem?_append_right (by rw [hplen]; omega), hplen, List.getElem?_append_left (by omega)] at hk
          have hw := List.getElem?_eq_getElem (l := ws) (i := k - σ.length) (by omega)
          rw [tau_mid (by omega) hw]
          have gx := hg.2 _ _ p hw hk
          cases hsrc : (ws[k - σ.length]'(by omega)).s with
          | some k0 =>
            have := gx.src k0 hsrc
            show (ρ ++ (ps ++ ρ'))[k0]? = some p
            rw [List.getElem?_append_left (List.getElem?_eq_some_iff.1 this).1]
            exact this
          | none =>
            show (ρ ++ (ps ++ ρ'))[hp.length + (k - σ.length)]? = some p
            rw [List.getElem?_append_right (by omega), List.getElem?_append_left (by omega), ← hk]
            congr 1
            omega
        · rw [tau_hi (by omega) hkl]
          rw [List.getElem?_append_right (by rw [List.length_append, hplen]; omega)] at hk
          rw [List.length_append, hplen, hpslen] at hk
          rw [List.getElem?_append_right (by omega), List.getElem?_append_right (by omega), ← hk]
          congr 1
          omega
    refine ⟨u, ps ++ ρ', rfl, by rw [h5]; exact renV_get hτ hres, ?_⟩
    rw [h6]
    generalize hTdef : tauOf σ ws hp.length h'.length = τ at hτ
    have hcase2 : ∀ {j : Nat} {x : Ent} {q : Pl}, (putAll τ σ h' hp ++ (deadN ws ++ renEs τ (h'.drop (σ.length + ws.length))))[j]? = some x → (ρ ++ (ps ++ ρ'))[j]? = some q →
        (hp[j]? = some x ∧ ρ[j]? = some q ∧ (j ∉ σ ∨ x.isElems = true)) ∨ (∃ i e', h'[i]? = some e' ∧ x = renEnt τ e' ∧ (pick σ ρ ++ ps ++ ρ')[i]? = some q ∧ (σ[i]? = some j ∨ (hp.length + ws.length ≤ j ∧ i = j - (hp.length + ws.length) + (σ.length + ws.length)))) ∨ x = .dead := fun {j x q} hx hq' => by
      by_cases hj : j < hp.length
      · rw [List.getElem?_append_left (by rw [putAll_len]; exact hj)] at hx
        rw [List.getElem?_append_left (by omega)] at hq'
        by_cases hm : j ∈ σ
        · obtain ⟨i, hi⟩ := List.getElem?_of_mem hm
          have hil : i < σ.length := (List.getElem?_eq_some_iff.1 hi).1
          have hil' : i < h'.length := by omega
          rw [putAll_get hd hi (List.getElem?_eq_getElem hil') (List.getElem?_eq_getElem hj)] at hx
          split at hx
          · rename_i hel
            cases hx
            exact Or.inl ⟨List.getElem?_eq_getElem hj, hq', Or.inr hel⟩
          · cases hx
            refine Or.inr (Or.inl ⟨i, _, List.getElem?_eq_getElem hil', rfl, ?_, Or.inl hi⟩)
            rw [List.append_assoc, List.getElem?_append_left (by rw [hplen]; exact hil)]
            exact pick_get hi hq'
        · rw [putAll_not hm] at hx
          exact Or.inl ⟨hx, hq', Or.inl hm⟩
      · rw [List.getElem?_append_right (by rw [putAll_len]; omega), putAll_len, deadN_map, renEs_map] at hx
        rw [List.getElem?_append_right (by omega), hlenρ] at hq'
        by_cases hj2 : j < hp.length + ws.length
        · rw [List.getElem?_append_left (by simp; omega), List.getElem?_map] at hx
          cases hw : ws[j - hp.length]? with
          | none => rw [hw] at hx; cases hx
          | some w => rw [hw] at hx; exact Or.inr (Or.inr (Option.some.inj hx).symm)
        · rw [List.getElem?_append_right (by simp; omega), List.getElem?_map, List.length_map, List.getElem?_drop] at hx
          rw [List.getElem?_append_right (by omega)] at hq'
          cases hx' : h'[σ.length + ws.length + (j - hp.length - ws.length)]? with
          | none => rw [hx'] at hx; cases hx
          | some e' =>
            rw [hx'] at hx
            refine Or.inr (Or.inl ⟨j - (hp.length + ws.length) + (σ.length + ws.length), e', ?_, (Option.some.inj hx).symm, ?_, Or.inr ⟨by omega, rfl⟩⟩)
            · rw [← hx']; congr 1; omega
            · rw [List.getElem?_append_right (by rw [List.length_append, hplen]; omega), List.length_append, hplen, hpslen, ← hq']
              congr 1; omega
    have hkeep : ∀ {j : Nat} {x : Ent} {q : Pl} {b : Nat}, hp[j]? = some x → ρ[j]? = some q → (j ∉ σ ∨ x.isElems = true) → x.dep q = some b → W'.heap[b]? = W.heap[b]? := fun {j x q b} hx hq' hor hb => by
      refine rel'.kept b (rel.dep_lt hx hq' hb) fun hm => ?_
      obtain ⟨k, a1, a2⟩ := hG hm
      rcases dep_fp hb with c1 | c1
      · have := rel.dis j k b (by rw [fp_mk hx hq']; exact c1) a2
        subst this
        rcases hor with c2 | c2
        · exact c2 a1
        · exact isElems_fp c2 c1
      · exact (rel.ro hx hq' c1 hb).2.1 k a2
    have hfp2 : ∀ {j b : Nat}, fp (ρ ++ (ps ++ ρ')) (putAll τ σ h' hp ++ (deadN ws ++ renEs τ (h'.drop (σ.length + ws.length)))) j = some b →
        (fp ρ hp j = some b ∧ j ∉ σ) ∨ (∃ i, fp (pick σ ρ ++ ps ++ ρ') h' i = some b ∧ (σ[i]? = some j ∨ (hp.length + ws.length ≤ j ∧ i = j - (hp.length + ws.length) + (σ.length + ws.length)))) := fun {j b} hf => by
      obtain ⟨x, q, hx, hq', hb⟩ := fp_some hf
      rcases hcase2 hx hq' with ⟨a1, a2, a3⟩ | ⟨i, e', a1, rfl, a3, a4⟩ | rfl
      · rcases a3 with c | c
        · exact Or.inl ⟨by rw [fp_mk a1 a2]; exact hb, c⟩
        · exact (isElems_fp c hb).elim
      · exact Or.inr ⟨i, by rw [fp_mk a1 a3, ← (renEnt_fp (τ := τ)).1]; exact hb, a4⟩
      · cases hb
    have hnew : ∀ {i b : Nat}, fp (pick σ ρ ++ ps ++ ρ') h' i = some b → (∃ k, k ∈ σ ∧ fp ρ hp k = some b) ∨ W.heap.size ≤ b := fun {i b} hf => by
      rcases (rel'.own i b hf).2 with c | c
      · exact Or.inl (hG c)
      · exact Or.inr c
    have hstep : ∀ fr b, Dom w0 G ρ hp W fr b → Dom w0 G (ρ ++ (ps ++ ρ')) (putAll τ σ h' hp ++ (deadN ws ++ renEs τ (h'.drop (σ.length + ws.length)))) W' fr b ∧ W'.heap[b]? = W.heap[b]? := by
      refine rel.datStep rel'.size (fun j' b hf => ?_) fun b hb hnf _ => rel'.kept b hb fun hm => ?_
      · rcases hfp2 hf with ⟨c1, _⟩ | ⟨i', c1, _⟩
        · exact Or.inl ⟨j', c1⟩
        · rcases hnew c1 with ⟨k, _, c2⟩ | c
          · exact Or.inl ⟨k, c2⟩
          · exact Or.inr c
      · obtain ⟨k, _, c2⟩ := hG hm
        exact hnf k c2
    have hfresh : ∀ b, Dom W ⟨Fps (pick σ ρ ++ ps) (h0 ++ entsW ws), o⟩ (pick σ ρ ++ ps ++ ρ') h' W' true b → Dom w0 G (ρ ++ (ps ++ ρ')) (putAll τ σ h' hp ++ (deadN ws ++ renEs τ (h'.drop (σ.length + ws.length)))) W' true b := fun b hb => by
      refine ⟨?_, hb.2.1, fun j' hj' => ?_⟩
      · rcases hb.1 with c | c
        · obtain ⟨k, _, c2⟩ := hG c
          exact (rel.own k b c2).2
        · exact Or.inr (Nat.le_trans rel.size c)
      rcases hfp2 hj' with ⟨c1, c0⟩ | ⟨i', c1, _⟩
      · rcases hb.1 with c | c
        · obtain ⟨k, c3, c2⟩ := hG c
          have := rel.dis j' k b c1 c2
          subst this
          exact c0 c3
        · have := (rel.own j' b c1).1; omega
      · exact hb.2.2 i' c1
    refine ⟨?_, fun j x q hx hq' => ?_, fun j b hf => ?_, fun i j b hi hj => ?_, fun i hi hne => ?_, fun j x q hx hq' => ?_, rel'.os.trans rel.os, rel'.tape.trans rel.tape, rel'.output.trans rel.output, Nat.le_trans rel.size rel'.size⟩
    · simp only [List.length_append, putAll_len, deadN_map, renEs_map, List.length_map, List.length_drop]
      omega
    · rcases hcase2 hx hq' with ⟨a1, a2, a3⟩ | ⟨i, e', a1, rfl, a3, a4⟩ | rfl
      · exact Ent.ok_app (Ent.ok_of_block (rel.ok j x q a1 a2) fun b hb => hkeep a1 a2 a3 hb) _
      · exact renEnt_ok hτ (rel'.ok i e' q a1 a3)
      · trivial
    · rcases hfp2 hf with ⟨a1, a2⟩ | ⟨i, a1, a2⟩
      · have := rel.own j b a1
        exact ⟨Nat.lt_of_lt_of_le this.1 rel'.size, this.2⟩
      · refine ⟨(rel'.own i b a1).1, ?_⟩
        rcases hnew a1 with ⟨k, c1, c2⟩ | c
        · exact (rel.own k b c2).2
        · exact Or.inr (Nat.le_trans rel.size c)
    · have mix : ∀ {i j i' : Nat}, fp ρ hp i = some b → i ∉ σ → fp (pick σ ρ ++ ps ++ ρ') h' i' = some b → False := fun {i j i'} c1 c2 c3 => by
        rcases hnew c3 with ⟨k, d1, d2⟩ | d
        · have := rel.dis i k b c1 d2
          subst this
          exact c2 d1
        · have := (rel.own i b c1).1; omega
      rcases hfp2 hi with ⟨a1, a2⟩ | ⟨i', a1, a2⟩
      · rcases hfp2 hj with ⟨b1, b2⟩ | ⟨j', b1, b2⟩
        · exact rel.dis i j b a1 b1
        · exact (mix (j := j) a1 a2 b1).elim
      · rcases hfp2 hj with ⟨b1, b2⟩ | ⟨j', b1, b2⟩
        · exact (mix (j := j) b1 b2 a1).elim
        · have := rel'.dis i' j' b a1 b1
          subst this
          rcases a2 with a2 | ⟨a2, a3⟩ <;> rcases b2 with b2 | ⟨b2, b3⟩
          · rw [a2] at b2; exact Option.some.inj b2
          · have := (List.getElem?_eq_some_iff.1 a2).1; omega
          · have := (List.getElem?_eq_some_iff.1 b2).1; omega
          · omega
    · refine (rel'.kept i (Nat.lt_of_lt_of_le hi rel.size) fun hm => ?_).trans (rel.kept i hi hne)
      obtain ⟨k, _, a2⟩ := hG hm
      rcases (rel.own k i a2).2 with c | c
      · exact hne c
      · omega
    · rcases hcase2 hx hq' with ⟨a1, a2, a3⟩ | ⟨i, e', a1, rfl, a3, a4⟩ | rfl
      · refine Ent.dat_mono (rel.dat j x q a1 a2) hstep fun b hb => rel'.kept b (rel.own j b (by rw [fp_mk a1 a2]; exact hb)).1 fun hm => ?_
        · obtain ⟨k, c1, c2⟩ := hG hm
          have := rel.dis j k b (by rw [fp_mk a1 a2]; exact hb) c2
          subst this
          rcases a3 with a3 | a3
          · exact a3 c1
          · exact isElems_fp a3 hb
      · have hst := noKept_get n1 a1
        have hdt := rel'.dat i e' q a1 a3
        cases e' with
        | data fr ty sz n get =>
          cases fr with
          | false =>
            refine Cell.shows_mono (c := .ns false ty sz n get) (fun fr b hb => ⟨?_, rfl⟩) hdt
            cases fr with
            | true => exact hfresh b hb
            | false =>
              rcases hb with hb | hb
              · exact (hstep false b (ho1 (hasOld_get a1 rfl) b hb.2.2)).1
              · exact Or.inr (hfresh b hb)
          | true => exact Cell.shows_fresh (ty := ty) (fun b hb => ⟨hfresh b hb, rfl⟩) hdt
        | orow ty sz n get => cases hst
        | elems ty sz n get =>
          intro h0
          rcases hdt h0 with hb | hb
          · exact (hstep false _ (ho1 (hasOld_get a1 rfl) _ hb.2.2)).1
          · exact Or.inr (hfresh _ hb)
        | mq t l =>
          obtain ⟨es, ck, h1, h2⟩ := hdt
          refine ⟨es, ck, h1, recsShow_mono (fun b hb => ⟨?_, rfl⟩) h2⟩
          rcases hb with hb | hb
          · exact (hstep false b (ho1 (hasOld_get a1 rfl) b hb.2.2)).1
          · exact Or.inr (hfresh b hb)
        | glob g sz n get => cases hst
        | _ => trivial
      · trivial

/-! ### A function's contract, from its text -/
def entSame : Ent → Ent → Prop
  | .elems t s n g, .elems t' s' n' g' => t = t' ∧ s = s' ∧ n = n' ∧ ∀ i, i < n → g i = g' i
  | .glob t s n g, .glob t' s' n' g' => t = t' ∧ s = s' ∧ n = n' ∧ ∀ i, i < n → g i = g' i
  | .data fr t s n g, .data fr' t' s' n' g' => fr = fr' ∧ t = t' ∧ s = s' ∧ n = n' ∧ ∀ i j, i < n' → j < s' → Cell.le (g i j) (g' i j)
  | .row t s n g, .row t' s' n' g' => t = t' ∧ s = s' ∧ n = n' ∧ ∀ i, i < n' → g i = g' i
  | x, y => x = y
def hSame : List Ent → List Ent → Prop
  | [], [] => True
  | x :: xs, y :: ys => entSame x y ∧ hSame xs ys
  | _, _ => False
theorem entSame_ok {ρ : List Pl} {x y : Ent} {p : Pl} {W : World} (h : entSame x y) : (x.ok ρ p W → y.ok ρ p W) ∧ y.fp p = x.fp p ∧ y.isElems = x.isElems ∧ y.dep p = x.dep p := by
  unfold entSame at h
  split at h
  · obtain ⟨rfl, rfl, rfl, h4⟩ := h
    exact ⟨fun k => ⟨k.1, fun i hi => by rw [← h4 i hi]; exact k.2 i hi⟩, rfl, rfl, rfl⟩
  · obtain ⟨rfl, rfl, rfl, h4⟩ := h
    exact ⟨fun k => ⟨k.1, fun i hi => by rw [← h4 i hi]; exact k.2 i hi⟩, rfl, rfl, rfl⟩
  · obtain ⟨rfl, rfl, rfl, rfl, h4⟩ := h
    exact ⟨id, rfl, rfl, rfl⟩
  · obtain ⟨rfl, rfl, rfl, h4⟩ := h
    exact ⟨Ent.row_same h4, rfl, rfl, rfl⟩
  · subst h
    exact ⟨id, rfl, rfl, rfl⟩
theorem entSame_dat {x y : Ent} {p : Pl} {W : World} {D : Bool → Nat → Prop} (h : entSame x y) (k : x.dat W D p) : y.dat W D p := by
  unfold entSame at h
  split at h
  · obtain ⟨rfl, rfl, rfl, h4⟩ := h
    exact k
  · obtain ⟨rfl, rfl, rfl, h4⟩ := h
    exact k
  · obtain ⟨rfl, rfl, rfl, rfl, h4⟩ := h
    exact Ent.dat_data_le h4 k
  · trivial
  · subst h
    exact k
theorem hSame_get : ∀ {xs ys : List Ent}, hSame xs ys → ys.length = xs.length ∧ ∀ (k : Nat) (y : Ent), ys[k]? = some y → ∃ x, xs[k]? = some x ∧ entSame x y
  | [], [], _ => ⟨rfl, fun k y h => by simp at h⟩
  | x :: xs, y :: ys, h => by
    have ih := hSame_get h.2
    refine ⟨by simp [ih.1], fun k z hz => ?_⟩
    cases k with
    | zero => simp at hz; subst hz; exact ⟨x, rfl, h.1⟩
    | succ k => simpa using ih.2 k z (by simpa using hz)
  | [], _ :: _, h => h.elim
  | _ :: _, [], h => h.elim
theorem Rel.same {w0 : World} {G : Gs} {ρ : List Pl} {h hs : List Ent} {W : World} (r : Rel w0 G ρ h W) (e : hSame h hs) : Rel w0 G ρ hs W := by
  obtain ⟨hl, hg⟩ := hSame_get e
  have hfp : ∀ {k b : Nat}, fp ρ hs k = some b → fp ρ h k = some b := fun {k b} hf => by
    obtain ⟨y, p, hy, hp, hb⟩ := fp_some hf
    obtain ⟨x, hx, hxy⟩ := hg k y hy
    rw [fp_mk hx hp, ← (entSame_ok (ρ := ρ) (W := W) hxy).2.1]
    exact hb
  refine ⟨by rw [r.len, hl], fun k y p hy hp => ?_, fun k b hf => r.own k b (hfp hf), fun j k b h1 h2 => r.dis j k b (hfp h1) (hfp h2), r.kept, fun k y p hy hp => ?_, r.os, r.tape, r.output, r.size⟩
  · obtain ⟨x, hx, hxy⟩ := hg k y hy
    exact (entSame_ok hxy).1 (r.ok k x p hx hp)
  · obtain ⟨x, hx, hxy⟩ := hg k y hy
    exact entSame_dat hxy (Ent.dat_mono (r.dat k x p hx hp) (r.datStep (Nat.le_refl _) (fun j b hf => Or.inl ⟨j, hfp hf⟩) fun _ _ _ _ => rfl) fun _ _ => rfl)

/-- What the function leaves, under the numbers σ; the first m entries keep theirs; behind the entries stands a row without elements, for nil slices. -/
structure LeftF (ty : TypeId) (sz m : Nat) (σ : List Nat) (v : SV) (h : List Ent) (res : SV) (es : List Ent) : Prop where
  sc : svScV σ.length res = true
  v : svSameN h.length v (renV σ res)
  d : (liveN σ es).Nodup
  m : σ.take m = List.range m
  h : hLeR σ (h ++ [.row ty sz 0 fun _ => []]) σ es

theorem Fn.of {P : Program} {E : Tbl} {C : List (Nat × App)} (M : List Nat) (U : Nat) (R : List (Nat × List (Nat × Bool))) (hE : E.Ok P) (hC : CtsOk P C) (hm : P.follows .mixedOrders = true)
    {f : FuncId} {fn : Func} {c : Code} {n : Nat} {res : List ResultVar} (hf : P.funcs[f]? = some fn) (hb : fn.body = some c) (hn : fn.ntmps = n) (hr : fn.results.toList = res) (hc : codeOk R c = true) (hcall : callable P f = true)
    (m : Nat) (ty' : TypeId) (sz' : Nat) {gs : List Nat} {vt : List (Nat × Nat)} {spec : SpecF} (hpf : ∀ args h pre r h', spec args h = some (pre, r, h') → noKept h' = true ∧ h.length = m ∧ m ≤ h'.length)
    (hx : ∀ args h pre r h', spec args h = some (pre, r, h') → pre → ∃ hs, hSame h hs ∧ exec (env (lft P m) U .std E C R) M c ⟨args ++ List.replicate (n - args.length) .und, hs⟩ (fin .std E res fun v hf => ∃ σ, LeftF ty' sz' m σ v hf r h')) : Fn P f gs vt spec := by
  refine ⟨hcall, fun args h pre r h' hs => ⟨(hpf _ _ _ _ _ hs).1, by rw [(hpf _ _ _ _ _ hs).2.1]; exact (hpf _ _ _ _ _ hs).2.2⟩, fun args h pre r h' hs hp o ρ W us rel hus => ?_⟩
  obtain ⟨hh, hw, hx'⟩ := hx args h pre r h' hs hp
  have hm1 : h.length = m := (hpf _ _ _ _ _ hs).2.1
  have hl : hh.length = m := by rw [(hSame_get hw).1, hm1]
  have hρ : ρ.length = m := by rw [rel.len, hm1]
  refine Calls.mono (fn_ok (N := env (lft P m) U .std E C R) rfl hE hC hm M hf hb hn hr hc (h := hh) (fun c st K _ h => by rw [hl]; exact h) (rel.same hw) hus _ hx') fun e W' he => ?_
  obtain ⟨v, u, ρ', h1', rfl, h1, h2, σ, l1, l2, l3, l4, l5⟩ := he
  have h3 := h2.addNil ty' sz' (fun _ => [])
  have hk : ((ρ ++ ρ') ++ [(⟨0, .slice none 0 0, 0⟩ : Pl)])[h1'.length]? = some ⟨0, .slice none 0 0, 0⟩ := by
    rw [← h2.len, List.getElem?_append_right (Nat.le_refl _)]
    simp
  obtain ⟨c1, hc1⟩ := pick_split (b := ρ' ++ [⟨0, .slice none 0 0, 0⟩]) hρ l4
  rw [← List.append_assoc] at hc1
  refine ⟨u, c1, rfl, ?_, ?_⟩
  · rw [← hc1]; exact svV_pick l1 (svSameN_ok l2 hk (SV.is_app h1 _))
  · rw [← hc1]; exact h3.pickL l5 l3
/-- As LeftF; own rows may come to be data (ks); for nil slices there stands the entry ne. -/
structure LeftZ (ne : Ent) (m : Nat) (ks σ : List Nat) (v : SV) (h : List Ent) (res : SV) (es : List Ent) : Prop where
  fz : frzOk h ks
  sc : svScV σ.length res = true
  v : svSameN h.length v (renV σ res)
  d : (liveN σ es).Nodup
  m : σ.take m = List.range m
  h : hLeR σ (frzs h ks ++ [ne]) σ es
theorem Fn.ofZ {P : Program} {E : Tbl} {C : List (Nat × App)} (M : List Nat) (U : Nat) (R : List (Nat × List (Nat × Bool))) (hE : E.Ok P) (hC : CtsOk P C) (hm : P.follows .mixedOrders = true)
    {f : FuncId} {fn : Func} {c : Code} {n : Nat} {res : List ResultVar} (hf : P.funcs[f]? = some fn) (hb : fn.body = some c) (hn : fn.ntmps = n) (hr : fn.results.toList = res) (hc : codeOk R c = true) (hcall : callable P f = true)
    (m : Nat) (ne : Ent) (hne : isNilE ne = true) {gs : List Nat} {vt : List (Nat × Nat)} {spec : SpecF} (hpf : ∀ args h pre r h', spec args h = some (pre, r, h') → noKept h' = true ∧ h.length = m ∧ m ≤ h'.length)
    (hx : ∀ args h pre r h', spec args h = some (pre, r, h') → pre → ∃ hs, hSame h hs ∧ exec (env (lft P m) U .std E C R) M c ⟨args ++ List.replicate (n - args.length) .und, hs⟩ (fin .std E res fun v hf => ∃ ks σ, LeftZ ne m ks σ v hf r h')) : Fn P f gs vt spec := by
  refine ⟨hcall, fun args h pre r h' hs => ⟨(hpf _ _ _ _ _ hs).1, by rw [(hpf _ _ _ _ _ hs).2.1]; exact (hpf _ _ _ _ _ hs).2.2⟩, fun args h pre r h' hs hp o ρ W us rel hus => ?_⟩
  obtain ⟨hh, hw, hx'⟩ := hx args h pre r h' hs hp
  have hm1 : h.length = m := (hpf _ _ _ _ _ hs).2.1
  have hl : hh.length = m := by rw [(hSame_get hw).1, hm1]
  have hρ : ρ.length = m := by rw [rel.len, hm1]
  refine Calls.mono (fn_ok (N := env (lft P m) U .std E C R) rfl hE hC hm M hf hb hn hr hc (h := hh) (fun c st K _ h => by rw [hl]; exact h) (rel.same hw) hus _ hx') fun e W' he => ?_
  obtain ⟨v, u, ρ', h1', rfl, h1, h2, ks, σ, l0, l1, l2, l3, l4, l5⟩ := he
  have h3 := (h2.frzs ks l0).addNilE ne hne
  have hk : ((ρ ++ ρ') ++ [(⟨0, .slice none 0 0, 0⟩ : Pl)])[h1'.length]? = some ⟨0, .slice none 0 0, 0⟩ := by
    rw [← h2.len, List.getElem?_append_right (Nat.le_refl _)]
    simp
  obtain ⟨c1, hc1⟩ := pick_split (b := ρ' ++ [⟨0, .slice none 0 0, 0⟩]) hρ l4
  rw [← List.append_assoc] at hc1
  refine ⟨u, c1, rfl, ?_, ?_⟩
  · rw [← hc1]; exact svV_pick l1 (svSameN_ok l2 hk (SV.is_app h1 _))
  · rw [← hc1]; exact h3.pickL l5 l3
end Go.Proofs.Ytcgoaicifjndpaa.Vx
