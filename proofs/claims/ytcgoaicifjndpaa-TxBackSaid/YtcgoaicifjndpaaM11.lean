/- The walker in use: how results are compared; functions without loops. -/
import Derived.Test.YtcgoaicifjndpaaM10
import Derived.Deep.LoopGhost
import Derived.LoopN
section
namespace Go.Proofs.Ytcgoaicifjndpaa.Vx
open Go.RowKit
set_option linter.unusedVariables false
set_option linter.unusedSimpArgs false

def cvSame : CV → CV → Prop
  | .tt, .bool b => b = true
  | .ff, .bool b => b = false
  | .bool a, .bool b => a = b
  | .tt, .tt => True
  | .ff, .ff => True
  | .bool b, .tt => b = true
  | .bool b, .ff => b = false
  | .int k n, .int k' m => k = k' ∧ n = m
  | .str l, .str m => l = m
  | .val v, .val w => v = w
  | .ptr k o, .ptr k' o' => k = k' ∧ o = o'
  | .row k, .row k' => k = k'
  | .sl k o l c, .sl k' o' l' c' => k = k' ∧ o = o' ∧ l = l' ∧ c = c'
  | .eptr k i s o, .eptr k' i' s' o' => k = k' ∧ i = i' ∧ s = s' ∧ o = o'
  | .aptr k i s o, .aptr k' i' s' o' => k = k' ∧ i = i' ∧ s = s' ∧ o = o'
  | .vsl k i s o, .vsl k' i' s' o' => k = k' ∧ i = i' ∧ s = s' ∧ o = o'
  | _, _ => False
def cvsSame : List CV → List CV → Prop
  | [], [] => True
  | x :: xs, y :: ys => cvSame x y ∧ cvsSame xs ys
  | _, _ => False
def eltsSame : List (Option CV × List CV) → List (Option CV × List CV) → Prop
  | [], [] => True
  | (some x, _) :: r, (some y, _) :: s => cvSame x y ∧ eltsSame r s
  | (none, xs) :: r, (none, ys) :: s => cvsSame xs ys ∧ eltsSame r s
  | _, _ => False
def svSame : SV → SV → Prop
  | .c x, .c y => cvSame x y
  | .agg xs, .agg ys => cvsSame xs ys
  | .tup xs, .tup ys => eltsSame xs ys
  | .fn f xs, .fn g ys => f = g ∧ cvsSame xs ys
  | _, _ => False

theorem cvSame_ok {x y : CV} (h : cvSame x y) {ρ : List Pl} {u : Value} (k : x.den ρ = some u) : y.den ρ = some u := by
  unfold cvSame at h
  split at h
  all_goals first
    | exact h.elim
    | (subst h; exact k)
    | exact k
    | (obtain ⟨rfl, rfl⟩ := h; exact k)
    | (obtain ⟨rfl, rfl, rfl, rfl⟩ := h; exact k)
theorem cvsSame_ok {ρ : List Pl} : ∀ {xs ys : List CV} {us : List Value}, cvsSame xs ys → IsL ρ xs us → IsL ρ ys us
  | [], [], us, _, k => k
  | x :: xs, y :: ys, us, h, k => by
    cases us with
    | nil => simp [IsL] at k
    | cons u us =>
      simp only [IsL, List.map_cons, List.cons.injEq] at k
      exact IsL.cons (cvSame_ok h.1 k.1) (cvsSame_ok h.2 k.2)
  | [], _ :: _, _, h, _ => h.elim
  | _ :: _, [], _, h, _ => h.elim
theorem eltsSame_ok {ρ : List Pl} : ∀ {xs ys : List (Option CV × List CV)} {us : List Value}, eltsSame xs ys → Elts ρ xs us → Elts ρ ys us
  | [], [], us, _, k => k
  | (some x, _) :: xs, (some y, _) :: ys, us, h, k => by
    obtain ⟨u, us', rfl, h1, h2⟩ := k
    exact ⟨u, us', rfl, cvSame_ok h.1 h1, eltsSame_ok h.2 h2⟩
  | (none, x) :: xs, (none, y) :: ys, us, h, k => by
    obtain ⟨u, us', rfl, ⟨vs, g1, g2⟩, h2⟩ := k
    exact ⟨u, us', rfl, ⟨vs, cvsSame_ok h.1 g1, g2⟩, eltsSame_ok h.2 h2⟩
  | [], _ :: _, _, h, _ => by simp [eltsSame] at h
  | _ :: _, [], _, h, _ => by simp [eltsSame] at h
  | (some _, _) :: _, (none, _) :: _, _, h, _ => by simp [eltsSame] at h
  | (none, _) :: _, (some _, _) :: _, _, h, _ => by simp [eltsSame] at h
theorem svSame_ok {x y : SV} (h : svSame x y) {ρ : List Pl} {u : Value} (k : x.is ρ u) : y.is ρ u := by
  unfold svSame at h
  split at h
  · exact cvSame_ok h k
  · obtain ⟨vs, h1, h2⟩ := k; exact ⟨vs, cvsSame_ok h h1, h2⟩
  · obtain ⟨us, h1, h2⟩ := k; exact ⟨us, eltsSame_ok h h1, h2⟩
  · obtain ⟨rfl, h⟩ := h; obtain ⟨vs, h1, h2⟩ := k; exact ⟨vs, cvsSame_ok h h1, h2⟩
  · exact h.elim

/-- The walker's tables; a loop is left to be shown. -/
def env (L : Code → St → (Ex → St → Prop) → Prop) (U : Nat) (A : Arith) (E : Tbl) (C : List (Nat × App)) (R : List (Nat × List (Nat × Bool))) : Env := ⟨A, E, C, R, L, U⟩
/-- A loop that is left to be shown. -/
def lft (P : Program) (m : Nat) : Code → St → (Ex → St → Prop) → Prop := fun c st K => Runs P m (.loop c) st K

/-! ### Loops -/
def cvSc (n : Nat) : CV → Bool
  | .ptr k _ => Nat.blt k n
  | .row k => Nat.blt k n
  | .sl k _ _ _ => Nat.blt k n
  | .eptr k _ _ _ => Nat.blt k n
  | .aptr k _ _ _ => Nat.blt k n
  | .vsl k _ _ _ => Nat.blt k n
  | _ => true
def cvsSc (n : Nat) : List CV → Bool
  | [] => true
  | x :: xs => match cvSc n x with
    | true => cvsSc n xs
    | false => false
def svSc (n : Nat) : SV → Bool
  | .c x => cvSc n x
  | .agg cs => cvsSc n cs
  | .any => true
  | .und => true
  | .tup _ => false
  | .fn _ cs => cvsSc n cs

/-- y says no more of the slot than x. -/
def svLe : SV → SV → Prop
  | _, .any => True
  | .und, .und => True
  | x, y => svSame x y
/-- y says no more than x. -/
def Cell.le (x y : Cell) : Prop := ∀ (W : World) (D : Bool → Nat → Prop) (u : Value), x.shows W D u → y.shows W D u
theorem Cell.le_refl (x : Cell) : Cell.le x x := fun _ _ _ h => h
theorem Ent.dat_data_le {W : World} {D : Bool → Nat → Prop} {p : Pl} {fr : Bool} {t : TypeId} {s m : Nat} {g g' : Nat → Nat → Cell} (h : ∀ i j, i < m → j < s → Cell.le (g i j) (g' i j)) (k : Ent.dat W D p (.data fr t s m g)) : Ent.dat W D p (.data fr t s m g') := by
  obtain ⟨a, cap, h1, h2, h3⟩ := k
  refine ⟨a, cap, h1, h2, fun h0 => ?_⟩
  obtain ⟨b, o, h4, h5, h6⟩ := h3 h0
  refine ⟨b, o, h4, h5, fun i j hi hj => ?_⟩
  obtain ⟨v, h7, h8⟩ := h6 i j hi hj
  exact ⟨v, h7, h i j hi hj W _ v h8⟩
theorem Ent.dat_orow_le {W : World} {D : Bool → Nat → Prop} {p : Pl} {t : TypeId} {s m : Nat} {g g' : Nat → Nat → Cell} (h : ∀ i j, i < m → j < s → Cell.le (g i j) (g' i j)) (k : Ent.dat W D p (.orow t s m g)) : Ent.dat W D p (.orow t s m g') := by
  obtain ⟨vs, h1, h2⟩ := k
  refine ⟨vs, h1, fun i j hi hj => ?_⟩
  obtain ⟨v, h7, h8⟩ := h2 i j hi hj
  exact ⟨v, h7, h i j hi hj W D v h8⟩
def entLe (n : Nat) : Ent → Ent → Prop
  | _, .dead => True
  | .data fr t s m g, .data fr' t' s' m' g' => fr = fr' ∧ t = t' ∧ s = s' ∧ m = m' ∧ (∀ i j, i < m' → j < s' → Cell.le (g i j) (g' i j))
  | .orow t s m g, .orow t' s' m' g' => t = t' ∧ s = s' ∧ m = m' ∧ (∀ i j, i < m' → j < s' → Cell.le (g i j) (g' i j))
  | .cells t cs, .cells t' cs' => t = t' ∧ cvsSc n cs' = true ∧ cvsSame cs cs'
  | .bytes e l, .bytes e' l' => e = e' ∧ l = l'
  | .row e s m g, .row e' s' m' g' => e = e' ∧ s = s' ∧ m = m' ∧ (∀ i, i < m' → g i = g' i)
  | _, _ => False
/-- A row said in other words. -/
theorem Ent.row_same {ρ ρ' : List Pl} {e : TypeId} {s m : Nat} {g g' : Nat → List CV} {p : Pl} {W : World} (h : ∀ i, i < m → g i = g' i) (k : Ent.ok ρ p W (.row e s m g)) : Ent.ok ρ' p W (.row e s m g') := by
  obtain ⟨vs, ⟨h1, h2, h3⟩, h4⟩ := k
  exact ⟨vs, ⟨fun i hi => by rw [← h i hi]; exact h1 i hi, h2, h3⟩, h4⟩
def hLe (n : Nat) : List Ent → List Ent → Prop
  | _, [] => True
  | x :: xs, y :: ys => (match x, y with
    | .elems t s m g, .elems t' s' m' g' => t = t' ∧ s = s' ∧ m = m' ∧ g = g'
    | x, y => entLe n x y) ∧ hLe n xs ys
  | [], _ :: _ => False


theorem den_take {ρ : List Pl} {n : Nat} {x : CV} {u : Value} (hs : cvSc n x = true) (h : x.den ρ = some u) : x.den (ρ.take n) = some u := by
  have key : ∀ k, Nat.blt k n = true → (ρ.take n)[k]? = ρ[k]? := fun k hk => by
    rw [List.getElem?_take, if_pos (by simpa [Nat.blt_eq] using hk)]
  cases x with
  | ptr k off => simp only [CV.den, key k hs]; exact h
  | row k => simp only [CV.den, key k hs]; exact h
  | sl k off len cap => simp only [CV.den, key k hs]; exact h
  | eptr k i sz off => simp only [CV.den, key k hs]; exact h
  | aptr k i off m => simp only [CV.den, key k hs]; exact h
  | vsl k i off m => simp only [CV.den, key k hs]; exact h
  | _ => exact h
theorem isL_take {ρ : List Pl} {n : Nat} : ∀ {xs : List CV} {us : List Value}, cvsSc n xs = true → IsL ρ xs us → IsL (ρ.take n) xs us
  | [], us, _, k => k
  | x :: xs, us, hs, k => by
    simp only [cvsSc] at hs
    split at hs
    · rename_i hx
      cases us with
      | nil => simp [IsL] at k
      | cons u us =>
        simp only [IsL, List.map_cons, List.cons.injEq] at k
        exact IsL.cons (den_take hx k.1) (isL_take hs k.2)
    · cases hs

def entLe' (n : Nat) (x y : Ent) : Prop :=
  match x, y with
  | .elems t s m g, .elems t' s' m' g' => t = t' ∧ s = s' ∧ m = m' ∧ g = g'
  | x, y => entLe n x y

theorem hLe_get {n : Nat} : ∀ {xs ys : List Ent}, hLe n xs ys → ys.length ≤ xs.length ∧ ∀ (k : Nat) (y : Ent), ys[k]? = some y → ∃ x, xs[k]? = some x ∧ entLe' n x y
  | xs, [], _ => ⟨by simp, fun k y h => by simp at h⟩
  | x :: xs, y :: ys, h => by
    have ih := hLe_get h.2
    refine ⟨by simpa using ih.1, fun k z hz => ?_⟩
    cases k with
    | zero => simp at hz; subst hz; exact ⟨x, rfl, h.1⟩
    | succ k => simpa using ih.2 k z (by simpa using hz)
  | [], _ :: _, h => h.elim

theorem entLe_ok {ρ : List Pl} {n : Nat} {x y : Ent} {p : Pl} {W : World} (h : entLe' n x y) (k : x.ok ρ p W) : y.ok (ρ.take n) p W ∧ (∀ b, y.fp p = some b → x.fp p = some b) := by
  unfold entLe' at h
  split at h
  · obtain ⟨rfl, rfl, rfl, rfl⟩ := h
    exact ⟨k, fun _ h => h⟩
  · unfold entLe at h
    split at h
    · exact ⟨trivial, (fun _ h => by cases h)⟩
    · obtain ⟨rfl, rfl, rfl, rfl, h4⟩ := h
      exact ⟨k, fun _ h => h⟩
    · obtain ⟨rfl, rfl, rfl, h4⟩ := h
      exact ⟨k, fun _ h => h⟩
    · obtain ⟨rfl, h2, h3⟩ := h
      obtain ⟨vs, g1, g2⟩ := k
      exact ⟨⟨vs, isL_take h2 (cvsSame_ok h3 g1), g2⟩, fun _ h => h⟩
    · obtain ⟨rfl, rfl⟩ := h
      exact ⟨k, fun _ h => h⟩
    · obtain ⟨rfl, rfl, rfl, h4⟩ := h
      exact ⟨Ent.row_same h4 k, fun _ h => h⟩
    · exact h.elim

theorem entLe_dat {n : Nat} {x y : Ent} {p : Pl} {W : World} {D : Bool → Nat → Prop} (h : entLe' n x y) (k : x.dat W D p) : y.dat W D p := by
  unfold entLe' at h
  split at h
  · obtain ⟨rfl, rfl, rfl, rfl⟩ := h
    exact k
  · unfold entLe at h
    split at h
    · trivial
    · obtain ⟨rfl, rfl, rfl, rfl, h4⟩ := h
      exact Ent.dat_data_le h4 k
    · obtain ⟨rfl, rfl, rfl, h4⟩ := h
      exact Ent.dat_orow_le h4 k
    · trivial
    · trivial
    · trivial
    · exact h.elim

theorem Rel.take {w0 : World} {G : Gs} {ρ : List Pl} {h h' : List Ent} {W : World} (r : Rel w0 G ρ h W) (hl : hLe h'.length h h') : Rel w0 G (ρ.take h'.length) h' W := by
  obtain ⟨hn, hg⟩ := hLe_get hl
  have hpl : ∀ (k : Nat) (p : Pl), (ρ.take h'.length)[k]? = some p → ρ[k]? = some p := fun k p hp => by
    rw [List.getElem?_take] at hp
    split at hp
    · exact hp
    · cases hp
  have hfp : ∀ k b, fp (ρ.take h'.length) h' k = some b → fp ρ h k = some b := fun k b hf => by
    obtain ⟨e, p, he, hp, hx⟩ := fp_some hf
    obtain ⟨x, h1, h2⟩ := hg k e he
    rw [fp_mk h1 (hpl k p hp)]
    exact (entLe_ok h2 (r.ok k x p h1 (hpl k p hp))).2 b hx
  refine ⟨by rw [List.length_take, r.len]; omega, fun k e p he hp => ?_, fun k b hf => r.own k b (hfp k b hf), fun j k b hj hk => r.dis j k b (hfp j b hj) (hfp k b hk), r.kept, fun k e p he hp => ?_, r.os, r.tape, r.output, r.size⟩
  · obtain ⟨x, g1, g2⟩ := hg k e he
    exact (entLe_ok g2 (r.ok k x p g1 (hpl k p hp))).1
  · obtain ⟨x, g1, g2⟩ := hg k e he
    exact entLe_dat g2 (Ent.dat_mono (r.dat k x p g1 (hpl k p hp)) (r.datStep (Nat.le_refl _) (fun j b hf => Or.inl ⟨j, hfp j b hf⟩) fun _ _ _ _ => rfl) fun _ _ => rfl)




/-- A function that only computes. -/
theorem Pure.of {P : Program} {E : Tbl} {C : List (Nat × App)} (M : List Nat) (U : Nat) (R : List (Nat × List (Nat × Bool))) (hE : E.Ok P) (hC : CtsOk P C) (hm : P.follows .mixedOrders = true)
    {f : FuncId} {fn : Func} {c : Code} {n : Nat} {res : List ResultVar} (hf : P.funcs[f]? = some fn) (hb : fn.body = some c) (hn : fn.ntmps = n) (hr : fn.results.toList = res) (hc : codeOk R c = true) (hcall : callable P f = true)
    {spec : List SV → Option (Prop × SV)} (hpf : ∀ args pre r, spec args = some (pre, r) → r.pf = true)
    (hx : ∀ args pre r, spec args = some (pre, r) → pre → exec (env (lft P 0) U .std E C R) M c ⟨args ++ List.replicate (n - args.length) .und, []⟩ (fin .std E res fun v _ => svSame v r)) : Pure P f spec := by
  refine ⟨hcall, fun args pre r hs hp us hus W => ?_⟩
  refine Calls.mono (fn_ok (N := env (lft P 0) U .std E C R) rfl hE hC hm M hf hb hn hr hc (h := []) (fun c st K _ h => h) (Rel.refl W) hus _ (hx args pre r hs hp)) fun e W' he => ?_
  obtain ⟨v, u, ρ', h', rfl, h1, h2, h3⟩ := he
  exact ⟨u, rfl, SV.is_pf (hpf _ _ _ hs) (svSame_ok h3 h1) [], h2.toBelow⟩
end Go.Proofs.Ytcgoaicifjndpaa.Vx
end

section
/- Contracts of methods: on a struct behind a pointer; on a writer. -/
namespace Go.Proofs.Ytcgoaicifjndpaa.Vx
open Go.RowKit
set_option linter.unusedVariables false
set_option linter.unusedSimpArgs false

/-- Since W only block g has turned, of what was there. -/
structure Only (G : List Nat) (W W' : World) : Prop where
  os : W'.os = W.os
  tape : W'.tape = W.tape
  output : W'.output = W.output
  size : W.heap.size ≤ W'.heap.size
  block : ∀ i, i < W.heap.size → i ∉ G → W'.heap[i]? = W.heap[i]?

abbrev Spec1 := List CV → List SV → Option (Prop × SV × List CV)

/-- A method on a struct (block g, element type T) that holds no place: what it holds before and behind the call. -/
structure Meth (P : Program) (f : FuncId) (T : TypeId) (spec : Spec1) : Prop where
  fn : callable P f = true
  run : ∀ cs args pre res cs', spec cs args = some (pre, res, cs') → pre → ∀ vs us, IsL [] cs vs → IsS [] args us → ∀ W g, W.heap[g]? = some (.cells vs.toArray T (0, 0)) →
    Calls P f (.pointer (some ⟨g, 0, none⟩) :: us).toArray W fun e W' => ∃ u vs', e = .returned u ∧ res.is [] u ∧ IsL [] cs' vs' ∧ W'.heap[g]? = some (.cells vs'.toArray T (0, 0)) ∧ Only [g] W W'

def appMeth (T : Nat) (spec : Spec1) : App := fun args h =>
  match args with
  | .c (.ptr k 0) :: rest => match h[k]? with
    | some (.cells t cs) => match Nat.beq t T && pfs cs && pfa rest with
      | true => match spec cs rest with
        | some (pre, res, cs') => some ⟨pre, res, h.set k (.cells T cs'), [k]⟩
        | none => none
      | false => none
    | _ => none
  | _ => none

/-- One known block, and what is new, has turned. -/
theorem Rel.onlySet {w0 : World} {G : Gs} {ρ : List Pl} {h : List Ent} {W W' : World} (r : Rel w0 G ρ h W) {k : Nat} {p : Pl} {ty : TypeId} {cs cs' : List CV} {vs' : List Value}
    (hk : h[k]? = some (.cells ty cs)) (hp : ρ[k]? = some p) (hv : IsL ρ cs' vs') (hb : W'.heap[p.b]? = some (.cells vs'.toArray ty (0, 0))) (ho : Only [p.b] W W') : Rel w0 G ρ (h.set k (.cells ty cs')) W' := by
  have hlt : k < h.length := (List.getElem?_eq_some_iff.1 hk).1
  have hkf : fp ρ h k = some p.b := by rw [fp_mk hk hp]; rfl
  have hget : ∀ j e, (h.set k (.cells ty cs'))[j]? = some e → (j = k ∧ e = .cells ty cs') ∨ (j ≠ k ∧ h[j]? = some e) := fun j e he => by
    by_cases hj : j = k
    · subst hj
      rw [List.getElem?_set_self hlt] at he
      exact Or.inl ⟨rfl, (Option.some.inj he).symm⟩
    · rw [List.getElem?_set_ne (fun e => hj e.symm)] at he
      exact Or.inr ⟨hj, he⟩
  have hfp : ∀ j b, fp ρ (h.set k (.cells ty cs')) j = some b → fp ρ h j = some b := fun j b hf => by
    obtain ⟨e, q, he, hq, hx⟩ := fp_some hf
    rcases hget j e he with ⟨rfl, rfl⟩ | ⟨hj, he'⟩
    · rw [fp_mk hk hq]; exact hx
    · rw [fp_mk he' hq]; exact hx
  refine ⟨by rw [r.len, List.length_set], fun j e q he hq => ?_, fun j b hf => ?_, fun i j b hi hj => r.dis i j b (hfp i b hi) (hfp j b hj), fun i hi hG => ?_, fun j e q he hq => ?_, ho.os.trans r.os, ho.tape.trans r.tape, ho.output.trans r.output, Nat.le_trans r.size ho.size⟩
  · rcases hget j e he with ⟨rfl, rfl⟩ | ⟨hj, he'⟩
    · rw [hp] at hq
      cases hq
      exact ⟨vs', hv, hb⟩
    · refine Ent.ok_of_block (r.ok j e q he' hq) fun b hb' => ho.block b (r.dep_lt he' hq hb') fun e1 => hj ?_
      simp only [List.mem_singleton] at e1
      subst e1
      rcases dep_fp hb' with h1 | h1
      · exact r.dis j k _ (by rw [fp_mk he' hq]; exact h1) hkf
      · exact absurd hkf ((r.ro he' hq h1 hb').2.1 k)
  · have := r.own j b (hfp j b hf)
    exact ⟨Nat.lt_of_lt_of_le this.1 ho.size, this.2⟩
  · rw [ho.block i (Nat.lt_of_lt_of_le hi r.size) fun e1 => ?_]
    · exact r.kept i hi hG
    · simp only [List.mem_singleton] at e1
      subst e1
      rcases (r.own k _ hkf).2 with h1 | h1
      · exact hG h1
      · omega
  · rcases hget j e he with ⟨rfl, rfl⟩ | ⟨hj, he'⟩
    · trivial
    · refine Ent.dat_mono (r.dat j e q he' hq) (r.datStep ho.size (fun i b hf => Or.inl ⟨i, hfp i b hf⟩) fun b hb' hn _ => ho.block b hb' fun e1 => ?_) fun b hb' => ho.block b (r.own j b (by rw [fp_mk he' hq]; exact hb')).1 fun e1 => ?_
      · simp only [List.mem_singleton] at e1
        exact hn k (by rw [e1]; exact hkf)
      · simp only [List.mem_singleton] at e1
        exact hj (r.dis j k b (by rw [fp_mk he' hq]; exact hb') (by rw [e1]; exact hkf))

theorem Meth.ct {P : Program} {f : FuncId} {T : TypeId} {spec : Spec1} (m : Meth P f T spec) : CtOk P f (appMeth T spec) := by
  have hsp : ∀ args hp r, appMeth T spec args hp = some r → ∃ k rest cs cs', args = .c (.ptr k 0) :: rest ∧ hp[k]? = some (.cells T cs) ∧ pfs cs = true ∧ pfa rest = true ∧ spec cs rest = some (r.pre, r.res, cs') ∧ r.h = hp.set k (.cells T cs') ∧ r.ms = [k] := fun args hp r hr => by
    unfold appMeth at hr
    split at hr
    · rename_i k rest
      split at hr
      · rename_i t cs hk
        split at hr
        · rename_i hb
          simp only [Bool.and_eq_true, Nat.beq_eq] at hb
          obtain ⟨⟨hb1, hb2⟩, hb3⟩ := hb
          subst hb1
          split at hr
          · rename_i pre res cs' hs
            simp only [Option.some.injEq] at hr
            subst hr
            exact ⟨k, rest, cs, cs', rfl, hk, hb2, hb3, hs, rfl, rfl⟩
          · cases hr
        · cases hr
      · cases hr
    · cases hr
  refine ⟨callable_spec m.fn, fun args hp r hr => ?_, fun args hp r hr hpre w0 G ρ W us rel hs => ?_⟩
  · obtain ⟨k, rest, cs, cs', rfl, hk, _, _, _, h1, h2⟩ := hsp args hp r hr
    rw [h1, h2]
    refine ⟨by simp, fun j hj hne => ?_⟩
    rw [List.getElem?_set_ne]
    intro e
    exact hne (by simp [e])
  · obtain ⟨k, rest, cs, cs', rfl, hk, hpf, hpa, hsp1, h1, h2⟩ := hsp args hp r hr
    obtain ⟨u, us', rfl, hu, hus⟩ := hs
    obtain ⟨p, hpk, rfl⟩ := den_ptr hu
    obtain ⟨vs, hv1, hv2⟩ := rel.ok k _ p hk hpk
    refine Calls.mono (m.run cs rest _ _ cs' hsp1 hpre vs us' (isL_pf hpf hv1 []) (isS_pf hpa hus []) W p.b hv2) fun e W' he => ?_
    obtain ⟨u, vs', rfl, hres, hcs', hb, ho⟩ := he
    refine ⟨u, [], rfl, by rw [List.append_nil]; simpa using SV.is_app hres ρ, ?_⟩
    rw [List.append_nil, h1]
    exact rel.onlySet hk hpk (by simpa using hcs'.app_ρ ρ) hb ho


theorem Rel.one {W : World} {g : Nat} {T : TypeId} {cs : List CV} {vs : List Value} (hv : IsL [] cs vs) (hb : W.heap[g]? = some (.cells vs.toArray T (0, 0))) : Rel W [g] [⟨g, undef, 0⟩] [.cells T cs] W := by
  have hg : g < W.heap.size := (Array.getElem?_eq_some_iff.1 hb).1
  have h0 : ∀ {k : Nat} {e : Ent}, [Ent.cells T cs][k]? = some e → k = 0 ∧ e = .cells T cs := fun {k e} h => by
    cases k with
    | zero => simp at h; exact ⟨rfl, h.symm⟩
    | succ k => simp at h
  have hf : ∀ {k b : Nat}, fp [⟨g, undef, 0⟩] [Ent.cells T cs] k = some b → k = 0 ∧ b = g := fun {k b} h => by
    obtain ⟨e, p, he, hp, hx⟩ := fp_some h
    obtain ⟨rfl, rfl⟩ := h0 he
    simp at hp
    subst hp
    simp [Ent.fp] at hx
    exact ⟨rfl, hx.symm⟩
  refine ⟨rfl, fun k e p he hp => ?_, fun k b h => ?_, fun j k b h1 h2 => ?_, fun _ _ _ => rfl, fun k e p he hp => ?_, rfl, rfl, rfl, Nat.le_refl _⟩
  · obtain ⟨rfl, rfl⟩ := h0 he
    simp at hp
    subst hp
    exact ⟨vs, by simpa using hv.app_ρ [⟨g, undef, 0⟩], hb⟩
  · obtain ⟨rfl, rfl⟩ := hf h
    exact ⟨hg, Or.inl (by simp)⟩
  · rw [(hf h1).1, (hf h2).1]
  · obtain ⟨rfl, rfl⟩ := h0 he
    trivial

/-- A method out of the walker. -/
theorem Meth.of {P : Program} {E : Tbl} {C : List (Nat × App)} (M : List Nat) (U : Nat) (R : List (Nat × List (Nat × Bool))) (hE : E.Ok P) (hC : CtsOk P C) (hm : P.follows .mixedOrders = true)
    {f : FuncId} {fn : Func} {c : Code} {n : Nat} {res : List ResultVar} (hf : P.funcs[f]? = some fn) (hb : fn.body = some c) (hn : fn.ntmps = n) (hr : fn.results.toList = res) (hc : codeOk R c = true) (hcall : callable P f = true)
    {T : TypeId} {spec : Spec1} (hpf : ∀ cs args pre r cs', spec cs args = some (pre, r, cs') → r.pf = true ∧ pfs cs' = true)
    (hx : ∀ cs args pre r cs', spec cs args = some (pre, r, cs') → pre → exec (env (lft P 1) U .std E C R) M c ⟨(.c (.ptr 0 0) :: args) ++ List.replicate (n - (args.length + 1)) .und, [.cells T cs]⟩ (fin .std E res fun v h => svSame v r ∧ hLe 1 h [.cells T cs'])) : Meth P f T spec := by
  refine ⟨hcall, fun cs args pre r cs' hs hp vs us hvs hus W g hg => ?_⟩
  have hargs : IsS [⟨g, undef, 0⟩] (.c (.ptr 0 0) :: args) (.pointer (some ⟨g, 0, none⟩) :: us) := ⟨_, us, rfl, rfl, by simpa using hus.app_ρ [⟨g, undef, 0⟩]⟩
  refine Calls.mono (fn_ok (N := env (lft P 1) U .std E C R) rfl hE hC hm M hf hb hn hr hc (h := [.cells T cs]) (fun c st K _ h => h) (Rel.one hvs hg) hargs _ (hx cs args pre r cs' hs hp)) fun e W' he => ?_
  obtain ⟨v, u, ρ', h', rfl, h1, h2, h3, h4⟩ := he
  have hk := Rel.take h2 (h' := [.cells T cs']) h4
  simp only [List.length_singleton, List.singleton_append, List.take_succ_cons, List.take_zero] at hk
  obtain ⟨vs', k1, k2⟩ := hk.ok 0 _ ⟨g, undef, 0⟩ rfl rfl
  obtain ⟨p1, p2⟩ := hpf _ _ _ _ _ hs
  exact ⟨u, vs', rfl, SV.is_pf p1 (svSame_ok h3 h1) [], isL_pf p2 k1 [], k2, ⟨hk.os, hk.tape, hk.output, hk.size, fun i hi hne => hk.kept i hi hne⟩⟩

/-- A function that makes one struct and hands out its address. -/
structure Makes (P : Program) (f : FuncId) (T : TypeId) (spec : List SV → Option (Prop × List CV)) : Prop where
  fn : callable P f = true
  run : ∀ args pre cs, spec args = some (pre, cs) → pre → ∀ us, IsS [] args us → ∀ W,
    Calls P f us.toArray W fun e W' => ∃ g vs, e = .returned (.pointer (some ⟨g, 0, none⟩)) ∧ IsL [] cs vs ∧ W'.heap[g]? = some (.cells vs.toArray T (0, 0)) ∧ W.heap.size ≤ g ∧ Below W.heap.size W W'

def appMakes (T : Nat) (spec : List SV → Option (Prop × List CV)) : App := fun args h =>
  match pfa args with
  | true => match spec args with
    | some (pre, cs) => some ⟨pre, .c (.ptr h.length 0), h ++ [.cells T cs], []⟩
    | none => none
  | false => none

theorem Rel.addBlock {w0 : World} {G : Gs} {ρ : List Pl} {h : List Ent} {W W' : World} (r : Rel w0 G ρ h W) {T : TypeId} {cs : List CV} {vs : List Value} {g : Nat} (hv : IsL ρ cs vs) (hg : W'.heap[g]? = some (.cells vs.toArray T (0, 0)))
    (hnew : W.heap.size ≤ g) (hb : Below W.heap.size W W') : Rel w0 G (ρ ++ [⟨g, undef, 0⟩]) (h ++ [.cells T cs]) W' := by
  have hlt : g < W'.heap.size := (Array.getElem?_eq_some_iff.1 hg).1
  have r' := r.belowStep hb
  have hpl : ∀ j q, (ρ ++ [⟨g, undef, 0⟩])[j]? = some q → (j < h.length → ρ[j]? = some q) ∧ (j = h.length → q = ⟨g, undef, 0⟩) := fun j q hq => by
    rcases getElem?_snoc hq with ⟨h1, h2⟩ | ⟨h1, h2⟩
    · exact ⟨fun _ => h2, fun e => by rw [r.len] at h1; omega⟩
    · exact ⟨fun h3 => by rw [r.len] at h1; omega, fun _ => h2⟩
  have hfp : ∀ j b, fp (ρ ++ [⟨g, undef, 0⟩]) (h ++ [.cells T cs]) j = some b → (j < h.length ∧ fp ρ h j = some b) ∨ (j = h.length ∧ b = g) := fun j b hf => by
    obtain ⟨x, q, hx, hq, hb⟩ := fp_some hf
    rcases getElem?_snoc hx with ⟨h1, h2⟩ | ⟨h1, rfl⟩
    · exact Or.inl ⟨h1, by rw [fp_mk h2 ((hpl j q hq).1 h1)]; exact hb⟩
    · rw [(hpl j q hq).2 h1] at hb
      simp [Ent.fp] at hb
      exact Or.inr ⟨h1, hb.symm⟩
  refine ⟨by simp [r.len], fun j x q hx hq => ?_, fun j b hf => ?_, fun i j b hi hj => ?_, r'.kept, fun j x q hx hq => ?_, r'.os, r'.tape, r'.output, r'.size⟩
  · rcases getElem?_snoc hx with ⟨h1, h2⟩ | ⟨h1, rfl⟩
    · exact Ent.ok_app (r'.ok j x q h2 ((hpl j q hq).1 h1)) _
    · rw [(hpl j q hq).2 h1]
      exact ⟨vs, hv.app_ρ _, hg⟩
  · rcases hfp j b hf with ⟨h1, h3⟩ | ⟨h1, rfl⟩
    · exact r'.own j b h3
    · exact ⟨hlt, Or.inr (Nat.le_trans r.size hnew)⟩
  · rcases hfp i b hi with ⟨h1, h3⟩ | ⟨h1, h2⟩
    · rcases hfp j b hj with ⟨g1, g3⟩ | ⟨g1, g2⟩
      · exact r.dis i j b h3 g3
      · have := (r.own i b h3).1; omega
    · rcases hfp j b hj with ⟨g1, g3⟩ | ⟨g1, g2⟩
      · have := (r.own j b g3).1; omega
      · omega
  · rcases getElem?_snoc hx with ⟨g1, g2⟩ | ⟨g1, rfl⟩
    · refine Ent.dat_mono (r.dat j x q g2 ((hpl j q hq).1 g1)) (r.datStep hb.size (fun i b hf => ?_) fun b hb' _ _ => hb.block b hb') fun b hb' => hb.block b (r.own j b (by rw [fp_mk g2 ((hpl j q hq).1 g1)]; exact hb')).1
      rcases hfp i b hf with ⟨_, h3⟩ | ⟨_, h3⟩
      · exact Or.inl ⟨i, h3⟩
      · exact Or.inr (by rw [h3]; exact hnew)
    · trivial

theorem Makes.ct {P : Program} {f : FuncId} {T : TypeId} {spec : List SV → Option (Prop × List CV)} (m : Makes P f T spec) : CtOk P f (appMakes T spec) := by
  have hsp : ∀ args hp r, appMakes T spec args hp = some r → ∃ cs, pfa args = true ∧ spec args = some (r.pre, cs) ∧ r.res = .c (.ptr hp.length 0) ∧ r.h = hp ++ [.cells T cs] ∧ r.ms = [] := fun args hp r hr => by
    unfold appMakes at hr
    split at hr
    · split at hr
      · rename_i h1 _ pre cs h2
        simp only [Option.some.injEq] at hr
        subst hr
        exact ⟨cs, h1, h2, rfl, rfl, rfl⟩
      · cases hr
    · cases hr
  refine ⟨callable_spec m.fn, fun args hp r hr => ?_, fun args hp r hr hpre w0 G ρ W us rel hs => ?_⟩
  · obtain ⟨cs, _, _, _, h1, h2⟩ := hsp args hp r hr
    rw [h1, h2]
    exact ⟨by simp, fun k hk _ => by rw [List.getElem?_append_left hk]⟩
  · obtain ⟨cs, h1, h2, h3, h4, _⟩ := hsp args hp r hr
    refine Calls.mono (m.run args r.pre cs h2 hpre us (isS_pf h1 hs []) W) fun e W' he => ?_
    obtain ⟨g, vs, rfl, hv, hg, hnew, hb⟩ := he
    refine ⟨_, [⟨g, undef, 0⟩], rfl, ?_, ?_⟩
    · rw [h3]
      show CV.den _ _ = _
      simp only [CV.den]
      rw [← rel.len, List.getElem?_append_right (Nat.le_refl _)]
      simp
    · rw [h4]
      exact rel.addBlock (by simpa using hv.app_ρ ρ) hg hnew hb

theorem Makes.of {P : Program} {E : Tbl} {C : List (Nat × App)} (M : List Nat) (U : Nat) (R : List (Nat × List (Nat × Bool))) (hE : E.Ok P) (hC : CtsOk P C) (hm : P.follows .mixedOrders = true)
    {f : FuncId} {fn : Func} {c : Code} {n : Nat} {res : List ResultVar} (hf : P.funcs[f]? = some fn) (hb : fn.body = some c) (hn : fn.ntmps = n) (hr : fn.results.toList = res) (hc : codeOk R c = true) (hcall : callable P f = true)
    {T : TypeId} {spec : List SV → Option (Prop × List CV)} (hpf : ∀ args pre cs, spec args = some (pre, cs) → pfs cs = true)
    (hx : ∀ args pre cs, spec args = some (pre, cs) → pre → exec (env (lft P 0) U .std E C R) M c ⟨args ++ List.replicate (n - args.length) .und, []⟩ (fin .std E res fun v h => match v with
      | .c (.ptr k 0) => match h[k]? with
        | some (.cells t ds) => t = T ∧ pfs ds = true ∧ cvsSame ds cs
        | _ => False
      | _ => False)) : Makes P f T spec := by
  refine ⟨hcall, fun args pre cs hs hp us hus W => ?_⟩
  refine Calls.mono (fn_ok (N := env (lft P 0) U .std E C R) rfl hE hC hm M hf hb hn hr hc (h := []) (fun c st K _ h => h) (Rel.refl W) hus _ (hx args pre cs hs hp)) fun e W' he => ?_
  obtain ⟨v, u, ρ', h', rfl, h1, h2, h3⟩ := he
  split at h3
  · rename_i k
    split at h3
    · rename_i t ds hk
      obtain ⟨rfl, g1, g2⟩ := h3
      simp only [List.nil_append] at h1 h2
      obtain ⟨p, hp, rfl⟩ := den_ptr h1
      obtain ⟨vs, hv1, hv2⟩ := h2.ok k _ p hk hp
      have hown := (h2.own k p.b (by rw [fp_mk hk hp]; rfl)).2
      exact ⟨p.b, vs, rfl, isL_pf (hpf _ _ _ hs) (cvsSame_ok g2 hv1) [], hv2, hown.resolve_left (by simp), h2.toBelow⟩
    · exact h3.elim
  · exact h3.elim
end Go.Proofs.Ytcgoaicifjndpaa.Vx
end

section
/- Slices that are read: what they hold; how they are handed to a function. -/
namespace Go.Proofs.Ytcgoaicifjndpaa.Vx
open Go.RowKit
set_option linter.unusedVariables false
set_option linter.unusedSimpArgs false




/-- A row of cells cut into elements. -/
def cutC (sz : Nat) (cs : List CV) (off : Nat) (i : Nat) : List CV := (cs.drop (off + i * sz)).take sz



end Go.Proofs.Ytcgoaicifjndpaa.Vx
end
