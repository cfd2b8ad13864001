/- The walker in use: how results are compared; functions without loops. -/
import Derived.Test.YtonkpggnlkkghaaVxFn
import Derived.Deep.LoopGhost
import Derived.LoopN
namespace Go.Proofs.Ytonkpggnlkkghaa.Vx
open Go.RowKit
set_option linter.unusedVariables false
set_option linter.unusedSimpArgs false

def cvSame : CV → CV → Prop
  | .tt, .bool b => b = true
  | .ff, .bool b => b = false
  | .bool a, .bool b => a = b
  | .tt, .tt => True
  | .ff, .ff => True
  | .bool b, .tt => b = true
  | .bool b, .ff => b = false
  | .int k n, .int k' m => k = k' ∧ n = m
  | .str l, .str m => l = m
  | .val v, .val w => v = w
  | .ptr k o, .ptr k' o' => k = k' ∧ o = o'
  | .row k, .row k' => k = k'
  | .sl k o l c, .sl k' o' l' c' => k = k' ∧ o = o' ∧ l = l' ∧ c = c'
  | .eptr k i s o, .eptr k' i' s' o' => k = k' ∧ i = i' ∧ s = s' ∧ o = o'
  | .aptr k i s o, .aptr k' i' s' o' => k = k' ∧ i = i' ∧ s = s' ∧ o = o'
  | .vsl k i s o, .vsl k' i' s' o' => k = k' ∧ i = i' ∧ s = s' ∧ o = o'
  | _, _ => False
def cvsSame : List CV → List CV → Prop
  | [], [] => True
  | x :: xs, y :: ys => cvSame x y ∧ cvsSame xs ys
  | _, _ => False
def eltsSame : List (Option CV × List CV) → List (Option CV × List CV) → Prop
  | [], [] => True
  | (some x, _) :: r, (some y, _) :: s => cvSame x y ∧ eltsSame r s
  | (none, xs) :: r, (none, ys) :: s => cvsSame xs ys ∧ eltsSame r s
  | _, _ => False
def svSame : SV → SV → Prop
  | .c x, .c y => cvSame x y
  | .agg xs, .agg ys => cvsSame xs ys
  | .tup xs, .tup ys => eltsSame xs ys
  | _, _ => False

theorem cvSame_ok {x y : CV} (h : cvSame x y) {ρ : List Pl} {u : Value} (k : x.den ρ = some u) : y.den ρ = some u := by
  unfold cvSame at h
  split at h
  all_goals first
    | exact h.elim
    | (subst h; exact k)
    | exact k
    | (obtain ⟨rfl, rfl⟩ := h; exact k)
    | (obtain ⟨rfl, rfl, rfl, rfl⟩ := h; exact k)
theorem cvsSame_ok {ρ : List Pl} : ∀ {xs ys : List CV} {us : List Value}, cvsSame xs ys → IsL ρ xs us → IsL ρ ys us
  | [], [], us, _, k => k
  | x :: xs, y :: ys, us, h, k => by
    cases us with
    | nil => simp [IsL] at k
    | cons u us =>
      simp only [IsL, List.map_cons, List.cons.injEq] at k
      exact IsL.cons (cvSame_ok h.1 k.1) (cvsSame_ok h.2 k.2)
  | [], _ :: _, _, h, _ => h.elim
  | _ :: _, [], _, h, _ => h.elim
theorem eltsSame_ok {ρ : List Pl} : ∀ {xs ys : List (Option CV × List CV)} {us : List Value}, eltsSame xs ys → Elts ρ xs us → Elts ρ ys us
  | [], [], us, _, k => k
  | (some x, _) :: xs, (some y, _) :: ys, us, h, k => by
    obtain ⟨u, us', rfl, h1, h2⟩ := k
    exact ⟨u, us', rfl, cvSame_ok h.1 h1, eltsSame_ok h.2 h2⟩
  | (none, x) :: xs, (none, y) :: ys, us, h, k => by
    obtain ⟨u, us', rfl, ⟨vs, g1, g2⟩, h2⟩ := k
    exact ⟨u, us', rfl, ⟨vs, cvsSame_ok h.1 g1, g2⟩, eltsSame_ok h.2 h2⟩
  | [], _ :: _, _, h, _ => by simp [eltsSame] at h
  | _ :: _, [], _, h, _ => by simp [eltsSame] at h
  | (some _, _) :: _, (none, _) :: _, _, h, _ => by simp [eltsSame] at h
  | (none, _) :: _, (some _, _) :: _, _, h, _ => by simp [eltsSame] at h
theorem svSame_ok {x y : SV} (h : svSame x y) {ρ : List Pl} {u : Value} (k : x.is ρ u) : y.is ρ u := by
  unfold svSame at h
  split at h
  · exact cvSame_ok h k
  · obtain ⟨vs, h1, h2⟩ := k; exact ⟨vs, cvsSame_ok h h1, h2⟩
  · obtain ⟨us, h1, h2⟩ := k; exact ⟨us, eltsSame_ok h h1, h2⟩
  · exact h.elim

/-- The walker's tables; a loop is left to be shown. -/
def env (L : Code → St → (Ex → St → Prop) → Prop) (U : Nat) (A : Arith) (E : Tbl) (C : List (Nat × App)) (R : List (Nat × List (Nat × Bool))) : Env := ⟨A, E, C, R, L, U⟩
/-- A loop that is left to be shown. -/
def lft (P : Program) (m : Nat) : Code → St → (Ex → St → Prop) → Prop := fun c st K => Runs P m (.loop c) st K

/-! ### Loops -/
def cvSc (n : Nat) : CV → Bool
  | .ptr k _ => Nat.blt k n
  | .row k => Nat.blt k n
  | .sl k _ _ _ => Nat.blt k n
  | .eptr k _ _ _ => Nat.blt k n
  | .aptr k _ _ _ => Nat.blt k n
  | .vsl k _ _ _ => Nat.blt k n
  | _ => true
def cvsSc (n : Nat) : List CV → Bool
  | [] => true
  | x :: xs => match cvSc n x with
    | true => cvsSc n xs
    | false => false
def svSc (n : Nat) : SV → Bool
  | .c x => cvSc n x
  | .agg cs => cvsSc n cs
  | .any => true
  | .und => true
  | .tup _ => false
def entSc (n : Nat) : Ent → Bool
  | .cells _ cs => cvsSc n cs
  | .bytes .. => true
  | .dead => true
  | _ => false

/-- y says no more of the slot than x. -/
def svLe : SV → SV → Prop
  | _, .any => True
  | .und, .und => True
  | x, y => svSame x y
def tLe (n : Nat) : List SV → List SV → Prop
  | [], [] => True
  | x :: xs, y :: ys => svSc n y = true ∧ svLe x y ∧ tLe n xs ys
  | _, _ => False
def entLe (n : Nat) : Ent → Ent → Prop
  | _, .dead => True
  | .cells t cs, .cells t' cs' => t = t' ∧ cvsSc n cs' = true ∧ cvsSame cs cs'
  | .bytes e l, .bytes e' l' => e = e' ∧ l = l'
  | .row e s m g, .row e' s' m' g' => e = e' ∧ s = s' ∧ m = m' ∧ (∀ i, i < m' → g i = g' i)
  | _, _ => False
/-- A row said in other words. -/
theorem Ent.row_same {ρ ρ' : List Pl} {e : TypeId} {s m : Nat} {g g' : Nat → List CV} {p : Pl} {W : World} (h : ∀ i, i < m → g i = g' i) (k : Ent.ok ρ p W (.row e s m g)) : Ent.ok ρ' p W (.row e s m g') := by
  obtain ⟨vs, ⟨h1, h2, h3⟩, h4⟩ := k
  exact ⟨vs, ⟨fun i hi => by rw [← h i hi]; exact h1 i hi, h2, h3⟩, h4⟩
def hLe (n : Nat) : List Ent → List Ent → Prop
  | _, [] => True
  | x :: xs, y :: ys => (match x, y with
    | .elems t s m g, .elems t' s' m' g' => t = t' ∧ s = s' ∧ m = m' ∧ g = g'
    | x, y => entLe n x y) ∧ hLe n xs ys
  | [], _ :: _ => False


theorem den_take {ρ : List Pl} {n : Nat} {x : CV} {u : Value} (hs : cvSc n x = true) (h : x.den ρ = some u) : x.den (ρ.take n) = some u := by
  have key : ∀ k, Nat.blt k n = true → (ρ.take n)[k]? = ρ[k]? := fun k hk => by
    rw [List.getElem?_take, if_pos (by simpa [Nat.blt_eq] using hk)]
  cases x with
  | ptr k off => simp only [CV.den, key k hs]; exact h
  | row k => simp only [CV.den, key k hs]; exact h
  | sl k off len cap => simp only [CV.den, key k hs]; exact h
  | eptr k i sz off => simp only [CV.den, key k hs]; exact h
  | aptr k i off m => simp only [CV.den, key k hs]; exact h
  | vsl k i off m => simp only [CV.den, key k hs]; exact h
  | _ => exact h
theorem isL_take {ρ : List Pl} {n : Nat} : ∀ {xs : List CV} {us : List Value}, cvsSc n xs = true → IsL ρ xs us → IsL (ρ.take n) xs us
  | [], us, _, k => k
  | x :: xs, us, hs, k => by
    simp only [cvsSc] at hs
    split at hs
    · rename_i hx
      cases us with
      | nil => simp [IsL] at k
      | cons u us =>
        simp only [IsL, List.map_cons, List.cons.injEq] at k
        exact IsL.cons (den_take hx k.1) (isL_take hs k.2)
    · cases hs
theorem sv_take {ρ : List Pl} {n : Nat} {x y : SV} {u : Value} (hs : svSc n y = true) (hl : svLe x y) (h : x.is ρ u) : y.is (ρ.take n) u := by
  have key : svSame x y → y.is (ρ.take n) u := fun hsame => by
    have h2 := svSame_ok hsame h
    cases y with
    | c y => exact den_take hs h2
    | agg cs => obtain ⟨vs, g1, g2⟩ := h2; exact ⟨vs, isL_take hs g1, g2⟩
    | tup vs => cases hs
    | und => exact h2
    | any => trivial
  unfold svLe at hl
  split at hl
  · trivial
  · exact h
  · exact key hl
theorem t_take {ρ : List Pl} {n : Nat} : ∀ {xs ys : List SV} {us : List Value}, tLe n xs ys → IsS ρ xs us → IsS (ρ.take n) ys us
  | [], [], us, _, k => k
  | x :: xs, y :: ys, us, h, k => by
    obtain ⟨u, us', rfl, h1, h2⟩ := k
    exact ⟨u, us', rfl, sv_take h.1 h.2.1 h1, t_take h.2.2 h2⟩
  | [], _ :: _, _, h, _ => h.elim
  | _ :: _, [], _, h, _ => h.elim

def entLe' (n : Nat) (x y : Ent) : Prop :=
  match x, y with
  | .elems t s m g, .elems t' s' m' g' => t = t' ∧ s = s' ∧ m = m' ∧ g = g'
  | x, y => entLe n x y

theorem hLe_get {n : Nat} : ∀ {xs ys : List Ent}, hLe n xs ys → ys.length ≤ xs.length ∧ ∀ (k : Nat) (y : Ent), ys[k]? = some y → ∃ x, xs[k]? = some x ∧ entLe' n x y
  | xs, [], _ => ⟨by simp, fun k y h => by simp at h⟩
  | x :: xs, y :: ys, h => by
    have ih := hLe_get h.2
    refine ⟨by simpa using ih.1, fun k z hz => ?_⟩
    cases k with
    | zero => simp at hz; subst hz; exact ⟨x, rfl, h.1⟩
    | succ k => simpa using ih.2 k z (by simpa using hz)
  | [], _ :: _, h => h.elim

theorem entLe_ok {ρ : List Pl} {n : Nat} {x y : Ent} {p : Pl} {W : World} (h : entLe' n x y) (k : x.ok ρ p W) : y.ok (ρ.take n) p W ∧ (∀ b, y.fp p = some b → x.fp p = some b) ∧ (y.isElems = true → x = y) := by
  unfold entLe' at h
  split at h
  · obtain ⟨rfl, rfl, rfl, rfl⟩ := h
    exact ⟨k, fun _ h => h, fun _ => rfl⟩
  · unfold entLe at h
    split at h
    · exact ⟨trivial, (fun _ h => by cases h), (fun h => by cases h)⟩
    · obtain ⟨rfl, h2, h3⟩ := h
      obtain ⟨vs, g1, g2⟩ := k
      exact ⟨⟨vs, isL_take h2 (cvsSame_ok h3 g1), g2⟩, fun _ h => h, (fun h => by cases h)⟩
    · obtain ⟨rfl, rfl⟩ := h
      exact ⟨k, fun _ h => h, (fun h => by cases h)⟩
    · obtain ⟨rfl, rfl, rfl, h4⟩ := h
      exact ⟨Ent.row_same h4 k, fun _ h => h, (fun h => by cases h)⟩
    · exact h.elim

def StLe (st s : St) : Prop := tLe s.h.length st.t s.t ∧ hLe s.h.length st.h s.h

theorem Rel.take {w0 : World} {G : List Nat} {ρ : List Pl} {h h' : List Ent} {W : World} (r : Rel w0 G ρ h W) (hl : hLe h'.length h h') : Rel w0 G (ρ.take h'.length) h' W := by
  obtain ⟨hn, hg⟩ := hLe_get hl
  have hpl : ∀ (k : Nat) (p : Pl), (ρ.take h'.length)[k]? = some p → ρ[k]? = some p := fun k p hp => by
    rw [List.getElem?_take] at hp
    split at hp
    · exact hp
    · cases hp
  have hfp : ∀ k b, fp (ρ.take h'.length) h' k = some b → fp ρ h k = some b := fun k b hf => by
    obtain ⟨e, p, he, hp, hx⟩ := fp_some hf
    obtain ⟨x, h1, h2⟩ := hg k e he
    rw [fp_mk h1 (hpl k p hp)]
    exact (entLe_ok h2 (r.ok k x p h1 (hpl k p hp))).2.1 b hx
  refine ⟨by rw [List.length_take, r.len]; omega, fun k e p he hp => ?_, fun k b hf => r.own k b (hfp k b hf), fun j k b hj hk => r.dis j k b (hfp j b hj) (hfp k b hk), r.kept, fun k e p b he hp h1 h2 => ?_, r.os, r.tape, r.output, r.size⟩
  · obtain ⟨x, g1, g2⟩ := hg k e he
    exact (entLe_ok g2 (r.ok k x p g1 (hpl k p hp))).1
  · obtain ⟨x, g1, g2⟩ := hg k e he
    have := (entLe_ok g2 (r.ok k x p g1 (hpl k p hp))).2.2 h1
    subst this
    exact r.ro k x p b g1 (hpl k p hp) h1 h2

theorem take_split {α : Type} {a b : List α} {n : Nat} (h : a.length ≤ n) : ∃ c, (a ++ b).take n = a ++ c := ⟨b.take (n - a.length), by rw [List.take_append, List.take_of_length_le h]⟩

/-- A loop: the states at its head are S x; each round lowers μ. -/
theorem loop_rule {P : Program} {N : Env} (hA : N.A = .std) (hE : N.E.Ok P) (hC : CtsOk P N.C) {m : Nat} (hL : ∀ c st K, codeOk N.R c = true → N.L c st K → Runs P m (.loop c) st K) (hm : P.follows .mixedOrders = true) (M : List Nat)
    {c : Code} {st : St} {K : Ex → St → Prop} {X : Type} (S : X → St) (μ : X → Nat) (x0 : X) (hc : codeOk N.R c = true) (hlen : ∀ x, m ≤ (S x).h.length) (h0 : StLe st (S x0))
    (round : ∀ x, exec N M c (S x) fun e st' => match e with
      | .normal => ∃ y, μ y < μ x ∧ StLe st' (S y)
      | e => K e st') : Runs P m (.loop c) st K := by
  refine ⟨fun w0 G ρb ρ1 a W hρ r hs hd => ?_⟩
  refine wp_loop_ghost (fun n a W => ∃ x ρ', μ x = n ∧ Rel w0 G (ρb ++ ρ') (S x).h W ∧ IsS (ρb ++ ρ') (S x).t a.tmps.toList ∧ a.defers = []) (μ x0) ?_ ?_
  · obtain ⟨c1, hc1⟩ := take_split (a := ρb) (b := ρ1) (n := (S x0).h.length) (by rw [hρ]; exact hlen x0)
    exact ⟨x0, c1, rfl, by rw [← hc1]; exact r.take h0.2, by rw [← hc1]; exact t_take h0.1 hs, hd⟩
  · rintro n a W ⟨x, ρ', rfl, r', hs', hd'⟩
    refine Code.wp_mono (fun e a W hq => ?_) ((exec_ok hA hE hC hL hm M c _ _ hc (round x)).run w0 G ρb ρ' a W hρ r' hs' hd')
    obtain ⟨ex, st', ρ2, he, r2, hs2, hd2, hk⟩ := hq
    cases ex with
    | normal =>
      cases e <;> try exact (show False from he).elim
      obtain ⟨y, hy, hle⟩ := hk
      obtain ⟨c1, hc1⟩ := take_split (a := ρb) (b := ρ2) (n := (S y).h.length) (by rw [hρ]; exact hlen y)
      exact ⟨μ y, hy, y, c1, rfl, by rw [← hc1]; exact r2.take hle.2, by rw [← hc1]; exact t_take hle.1 hs2, hd2⟩
    | exit i =>
      cases e <;> try exact (show False from he).elim
      exact ⟨.exit i, st', ρ2, he, r2, hs2, hd2, hk⟩
    | ret =>
      cases e <;> try exact (show False from he).elim
      exact ⟨.ret, st', ρ2, he, r2, hs2, hd2, hk⟩

/-- The walker, cut: first a; what it leaves is taken up later. -/
theorem exec_cut {N : Env} {M : List Nat} {a b : Code} {st : St} {K : Ex → St → Prop}
    (h : ∀ K' : Ex → St → Prop, (∀ st', exec N M b st' K → K' .normal st') → (∀ st', K .ret st' → K' .ret st') → (∀ i st', K (.exit i) st' → K' (.exit i) st') → exec N M a st K') : exec N M (.seq a b) st K :=
  h _ (fun _ h => h) (fun _ h => h) (fun _ _ h => h)
theorem exec_assoc {N : Env} {M : List Nat} {a b c : Code} {st : St} {K : Ex → St → Prop} : exec N M (.seq (.seq a b) c) st K = exec N M (.seq a (.seq b c)) st K := by
  show exec N M a st _ = exec N M a st _
  congr 1
  funext e st'
  cases e <;> rfl

/-- A function that only computes. -/
theorem Pure.of {P : Program} {E : Tbl} {C : List (Nat × App)} (M : List Nat) (U : Nat) (R : List (Nat × List (Nat × Bool))) (hE : E.Ok P) (hC : CtsOk P C) (hm : P.follows .mixedOrders = true)
    {f : FuncId} {fn : Func} {c : Code} {n : Nat} {res : List ResultVar} (hf : P.funcs[f]? = some fn) (hb : fn.body = some c) (hn : fn.ntmps = n) (hr : fn.results.toList = res) (hc : codeOk R c = true) (hcall : callable P f = true)
    {spec : List SV → Option (Prop × SV)} (hpf : ∀ args pre r, spec args = some (pre, r) → r.pf = true)
    (hx : ∀ args pre r, spec args = some (pre, r) → pre → exec (env (lft P 0) U .std E C R) M c ⟨args ++ List.replicate (n - args.length) .und, []⟩ (fin .std E res fun v _ => svSame v r)) : Pure P f spec := by
  refine ⟨hcall, fun args pre r hs hp us hus W => ?_⟩
  refine Calls.mono (fn_ok (N := env (lft P 0) U .std E C R) rfl hE hC hm M hf hb hn hr hc (h := []) (fun c st K _ h => h) (Rel.refl W) hus _ (hx args pre r hs hp)) fun e W' he => ?_
  obtain ⟨v, u, ρ', h', rfl, h1, h2, h3⟩ := he
  exact ⟨u, rfl, SV.is_pf (hpf _ _ _ hs) (svSame_ok h3 h1) [], h2.toBelow⟩
end Go.Proofs.Ytonkpggnlkkghaa.Vx
