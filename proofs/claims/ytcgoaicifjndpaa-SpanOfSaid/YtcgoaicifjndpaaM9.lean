/- The walker in use: how results are compared; functions without loops. -/
import Derived.Test.YtcgoaicifjndpaaM8
import Derived.Deep.LoopGhost
import Derived.LoopN
section
namespace Go.Proofs.Ytcgoaicifjndpaa.Vx
open Go.RowKit
set_option linter.unusedVariables false
set_option linter.unusedSimpArgs false

def cvSame : CV → CV → Prop
  | .tt, .bool b => b = true
  | .ff, .bool b => b = false
  | .bool a, .bool b => a = b
  | .tt, .tt => True
  | .ff, .ff => True
  | .bool b, .tt => b = true
  | .bool b, .ff => b = false
  | .int k n, .int k' m => k = k' ∧ n = m
  | .str l, .str m => l = m
  | .val v, .val w => v = w
  | .ptr k o, .ptr k' o' => k = k' ∧ o = o'
  | .row k, .row k' => k = k'
  | .sl k o l c, .sl k' o' l' c' => k = k' ∧ o = o' ∧ l = l' ∧ c = c'
  | .eptr k i s o, .eptr k' i' s' o' => k = k' ∧ i = i' ∧ s = s' ∧ o = o'
  | .aptr k i s o, .aptr k' i' s' o' => k = k' ∧ i = i' ∧ s = s' ∧ o = o'
  | .vsl k i s o, .vsl k' i' s' o' => k = k' ∧ i = i' ∧ s = s' ∧ o = o'
  | _, _ => False
def cvsSame : List CV → List CV → Prop
  | [], [] => True
  | x :: xs, y :: ys => cvSame x y ∧ cvsSame xs ys
  | _, _ => False
def eltsSame : List (Option CV × List CV) → List (Option CV × List CV) → Prop
  | [], [] => True
  | (some x, _) :: r, (some y, _) :: s => cvSame x y ∧ eltsSame r s
  | (none, xs) :: r, (none, ys) :: s => cvsSame xs ys ∧ eltsSame r s
  | _, _ => False
def svSame : SV → SV → Prop
  | .c x, .c y => cvSame x y
  | .agg xs, .agg ys => cvsSame xs ys
  | .tup xs, .tup ys => eltsSame xs ys
  | .fn f xs, .fn g ys => f = g ∧ cvsSame xs ys
  | _, _ => False

theorem cvSame_ok {x y : CV} (h : cvSame x y) {ρ : List Pl} {u : Value} (k : x.den ρ = some u) : y.den ρ = some u := by
  unfold cvSame at h
  split at h
  all_goals first
    | exact h.elim
    | (subst h; exact k)
    | exact k
    | (obtain ⟨rfl, rfl⟩ := h; exact k)
    | (obtain ⟨rfl, rfl, rfl, rfl⟩ := h; exact k)
theorem cvsSame_ok {ρ : List Pl} : ∀ {xs ys : List CV} {us : List Value}, cvsSame xs ys → IsL ρ xs us → IsL ρ ys us
  | [], [], us, _, k => k
  | x :: xs, y :: ys, us, h, k => by
    cases us with
    | nil => simp [IsL] at k
    | cons u us =>
      simp only [IsL, List.map_cons, List.cons.injEq] at k
      exact IsL.cons (cvSame_ok h.1 k.1) (cvsSame_ok h.2 k.2)
  | [], _ :: _, _, h, _ => h.elim
  | _ :: _, [], _, h, _ => h.elim
theorem eltsSame_ok {ρ : List Pl} : ∀ {xs ys : List (Option CV × List CV)} {us : List Value}, eltsSame xs ys → Elts ρ xs us → Elts ρ ys us
  | [], [], us, _, k => k
  | (some x, _) :: xs, (some y, _) :: ys, us, h, k => by
    obtain ⟨u, us', rfl, h1, h2⟩ := k
    exact ⟨u, us', rfl, cvSame_ok h.1 h1, eltsSame_ok h.2 h2⟩
  | (none, x) :: xs, (none, y) :: ys, us, h, k => by
    obtain ⟨u, us', rfl, ⟨vs, g1, g2⟩, h2⟩ := k
    exact ⟨u, us', rfl, ⟨vs, cvsSame_ok h.1 g1, g2⟩, eltsSame_ok h.2 h2⟩
  | [], _ :: _, _, h, _ => by simp [eltsSame] at h
  | _ :: _, [], _, h, _ => by simp [eltsSame] at h
  | (some _, _) :: _, (none, _) :: _, _, h, _ => by simp [eltsSame] at h
  | (none, _) :: _, (some _, _) :: _, _, h, _ => by simp [eltsSame] at h
theorem svSame_ok {x y : SV} (h : svSame x y) {ρ : List Pl} {u : Value} (k : x.is ρ u) : y.is ρ u := by
  unfold svSame at h
  split at h
  · exact cvSame_ok h k
  · obtain ⟨vs, h1, h2⟩ := k; exact ⟨vs, cvsSame_ok h h1, h2⟩
  · obtain ⟨us, h1, h2⟩ := k; exact ⟨us, eltsSame_ok h h1, h2⟩
  · obtain ⟨rfl, h⟩ := h; obtain ⟨vs, h1, h2⟩ := k; exact ⟨vs, cvsSame_ok h h1, h2⟩
  · exact h.elim

/-- The walker's tables; a loop is left to be shown. -/
def env (L : Code → St → (Ex → St → Prop) → Prop) (U : Nat) (A : Arith) (E : Tbl) (C : List (Nat × App)) (R : List (Nat × List (Nat × Bool))) : Env := ⟨A, E, C, R, L, U⟩
/-- A loop that is left to be shown. -/
def lft (P : Program) (m : Nat) : Code → St → (Ex → St → Prop) → Prop := fun c st K => Runs P m (.loop c) st K

/-! ### Loops -/
def cvSc (n : Nat) : CV → Bool
  | .ptr k _ => Nat.blt k n
  | .row k => Nat.blt k n
  | .sl k _ _ _ => Nat.blt k n
  | .eptr k _ _ _ => Nat.blt k n
  | .aptr k _ _ _ => Nat.blt k n
  | .vsl k _ _ _ => Nat.blt k n
  | _ => true
def cvsSc (n : Nat) : List CV → Bool
  | [] => true
  | x :: xs => match cvSc n x with
    | true => cvsSc n xs
    | false => false
def svSc (n : Nat) : SV → Bool
  | .c x => cvSc n x
  | .agg cs => cvsSc n cs
  | .any => true
  | .und => true
  | .tup _ => false
  | .fn _ cs => cvsSc n cs

/-- y says no more of the slot than x. -/
def svLe : SV → SV → Prop
  | _, .any => True
  | .und, .und => True
  | x, y => svSame x y
/-- y says no more than x. -/
def Cell.le (x y : Cell) : Prop := ∀ (W : World) (D : Bool → Nat → Prop) (u : Value), x.shows W D u → y.shows W D u
theorem Cell.le_refl (x : Cell) : Cell.le x x := fun _ _ _ h => h
theorem Ent.dat_data_le {W : World} {D : Bool → Nat → Prop} {p : Pl} {fr : Bool} {t : TypeId} {s m : Nat} {g g' : Nat → Nat → Cell} (h : ∀ i j, i < m → j < s → Cell.le (g i j) (g' i j)) (k : Ent.dat W D p (.data fr t s m g)) : Ent.dat W D p (.data fr t s m g') := by
  obtain ⟨a, cap, h1, h2, h3⟩ := k
  refine ⟨a, cap, h1, h2, fun h0 => ?_⟩
  obtain ⟨b, o, h4, h5, h6⟩ := h3 h0
  refine ⟨b, o, h4, h5, fun i j hi hj => ?_⟩
  obtain ⟨v, h7, h8⟩ := h6 i j hi hj
  exact ⟨v, h7, h i j hi hj W _ v h8⟩
theorem Ent.dat_orow_le {W : World} {D : Bool → Nat → Prop} {p : Pl} {t : TypeId} {s m : Nat} {g g' : Nat → Nat → Cell} (h : ∀ i j, i < m → j < s → Cell.le (g i j) (g' i j)) (k : Ent.dat W D p (.orow t s m g)) : Ent.dat W D p (.orow t s m g') := by
  obtain ⟨vs, h1, h2⟩ := k
  refine ⟨vs, h1, fun i j hi hj => ?_⟩
  obtain ⟨v, h7, h8⟩ := h2 i j hi hj
  exact ⟨v, h7, h i j hi hj W D v h8⟩
def entLe (n : Nat) : Ent → Ent → Prop
  | _, .dead => True
  | .data fr t s m g, .data fr' t' s' m' g' => fr = fr' ∧ t = t' ∧ s = s' ∧ m = m' ∧ (∀ i j, i < m' → j < s' → Cell.le (g i j) (g' i j))
  | .orow t s m g, .orow t' s' m' g' => t = t' ∧ s = s' ∧ m = m' ∧ (∀ i j, i < m' → j < s' → Cell.le (g i j) (g' i j))
  | .cells t cs, .cells t' cs' => t = t' ∧ cvsSc n cs' = true ∧ cvsSame cs cs'
  | .bytes e l, .bytes e' l' => e = e' ∧ l = l'
  | .row e s m g, .row e' s' m' g' => e = e' ∧ s = s' ∧ m = m' ∧ (∀ i, i < m' → g i = g' i)
  | _, _ => False
/-- A row said in other words. -/
theorem Ent.row_same {ρ ρ' : List Pl} {e : TypeId} {s m : Nat} {g g' : Nat → List CV} {p : Pl} {W : World} (h : ∀ i, i < m → g i = g' i) (k : Ent.ok ρ p W (.row e s m g)) : Ent.ok ρ' p W (.row e s m g') := by
  obtain ⟨vs, ⟨h1, h2, h3⟩, h4⟩ := k
  exact ⟨vs, ⟨fun i hi => by rw [← h i hi]; exact h1 i hi, h2, h3⟩, h4⟩
def hLe (n : Nat) : List Ent → List Ent → Prop
  | _, [] => True
  | x :: xs, y :: ys => (match x, y with
    | .elems t s m g, .elems t' s' m' g' => t = t' ∧ s = s' ∧ m = m' ∧ g = g'
    | x, y => entLe n x y) ∧ hLe n xs ys
  | [], _ :: _ => False











/-- A function that only computes. -/
theorem Pure.of {P : Program} {E : Tbl} {C : List (Nat × App)} (M : List Nat) (U : Nat) (R : List (Nat × List (Nat × Bool))) (hE : E.Ok P) (hC : CtsOk P C) (hm : P.follows .mixedOrders = true)
    {f : FuncId} {fn : Func} {c : Code} {n : Nat} {res : List ResultVar} (hf : P.funcs[f]? = some fn) (hb : fn.body = some c) (hn : fn.ntmps = n) (hr : fn.results.toList = res) (hc : codeOk R c = true) (hcall : callable P f = true)
    {spec : List SV → Option (Prop × SV)} (hpf : ∀ args pre r, spec args = some (pre, r) → r.pf = true)
    (hx : ∀ args pre r, spec args = some (pre, r) → pre → exec (env (lft P 0) U .std E C R) M c ⟨args ++ List.replicate (n - args.length) .und, []⟩ (fin .std E res fun v _ => svSame v r)) : Pure P f spec := by
  refine ⟨hcall, fun args pre r hs hp us hus W => ?_⟩
  refine Calls.mono (fn_ok (N := env (lft P 0) U .std E C R) rfl hE hC hm M hf hb hn hr hc (h := []) (fun c st K _ h => h) (Rel.refl W) hus _ (hx args pre r hs hp)) fun e W' he => ?_
  obtain ⟨v, u, ρ', h', rfl, h1, h2, h3⟩ := he
  exact ⟨u, rfl, SV.is_pf (hpf _ _ _ hs) (svSame_ok h3 h1) [], h2.toBelow⟩
end Go.Proofs.Ytcgoaicifjndpaa.Vx
end

section
/- Contracts of methods: on a struct behind a pointer; on a writer. -/
namespace Go.Proofs.Ytcgoaicifjndpaa.Vx
open Go.RowKit
set_option linter.unusedVariables false
set_option linter.unusedSimpArgs false














end Go.Proofs.Ytcgoaicifjndpaa.Vx
end

section
/- Slices that are read: what they hold; how they are handed to a function. -/
namespace Go.Proofs.Ytcgoaicifjndpaa.Vx
open Go.RowKit
set_option linter.unusedVariables false
set_option linter.unusedSimpArgs false




/-- A row of cells cut into elements. -/
def cutC (sz : Nat) (cs : List CV) (off : Nat) (i : Nat) : List CV := (cs.drop (off + i * sz)).take sz



end Go.Proofs.Ytcgoaicifjndpaa.Vx
end
