/- The walker's operations that only compute or read: what each comes to. -/
import Derived.Test.YtonkpggnlkkghaaVxOps
import Derived.Laws.StructEq
namespace Go.Proofs.Ytonkpggnlkkghaa.Vx
open Go.RowKit
set_option linter.unusedVariables false
set_option linter.unusedSimpArgs false

/-! ### '==' of structs whose fields are numbers, strings and bools -/
def eqV : Nat → Value → Value → Option Bool
  | 0, .int k a, .int k' b => if k = k' then some (decide (a = b)) else none
  | 1, .string a, .string b => some (decide (a.toList = b.toList))
  | 2, .bool a, .bool b => some (a == b)
  | _, _, _ => none
def eqVs : List Nat → List Value → List Value → Option Bool
  | [], [], [] => some true
  | g :: gs, x :: xs, y :: ys =>
    match eqV g x y, eqVs gs xs ys with
    | some a, some b => some (a && b)
    | _, _ => none
  | _, _, _ => none

structure FlatOk (P : Program) (t : TypeId) (gs : List Nat) : Prop where
  guard : P.eqGuardType P.depth t = false
  eql : ∀ xs ys b, eqVs gs xs ys = some b → ∀ W, (binOp .eql t (.agg xs.toArray) (.agg ys.toArray)).run P W = .ok (.bool b) W
  neq : ∀ xs ys b, eqVs gs xs ys = some b → ∀ W, (binOp .neq t (.agg xs.toArray) (.agg ys.toArray)).run P W = .ok (.bool !b) W

def lookN : List (Nat × List Nat) → Nat → Option (List Nat)
  | [], _ => none
  | (u, i) :: r, t => if u == t then some i else lookN r t
def FlatsOk (P : Program) (F : List (Nat × List Nat)) : Prop := ∀ t gs, lookN F t = some gs → FlatOk P t gs
theorem FlatsOk.nil (P : Program) : FlatsOk P [] := fun t i h => by cases h
theorem FlatsOk.cons {P : Program} {t : Nat} {i : List Nat} {F : List (Nat × List Nat)} (h : FlatOk P t i) (k : FlatsOk P F) : FlatsOk P ((t, i) :: F) := fun u j hu => by
  unfold lookN at hu
  by_cases e : t = u
  · subst e; simp at hu; rw [← hu]; exact h
  · simp [e] at hu; exact k u j hu

def eqC (A : Arith) : Nat → CV → CV → Option Bool
  | 0, .int k a, .int k' b => if k = k' then some (A.eq a b) else none
  | 1, .str l, .str m => some (A.eqS l m)
  | 2, .tt, .tt => some true
  | 2, .tt, .ff => some false
  | 2, .ff, .tt => some false
  | 2, .ff, .ff => some true
  | 2, .tt, .bool b => some b
  | 2, .bool b, .tt => some b
  | 2, .ff, .bool b => some (A.not b)
  | 2, .bool b, .ff => some (A.not b)
  | 2, .bool a, .bool b => some (A.eqB a b)
  | _, _, _ => none
def eqCs (A : Arith) : List Nat → List CV → List CV → Option Bool
  | [], [], [] => some true
  | g :: gs, x :: xs, y :: ys =>
    match eqC A g x y, eqCs A gs xs ys with
    | some a, some b => some (A.and a b)
    | _, _ => none
  | _, _, _ => none

theorem eqC_ok {ρ : List Pl} {g : Nat} {x y : CV} {u v : Value} {b : Bool} (hx : x.den ρ = some u) (hy : y.den ρ = some v) (h : eqC .std g x y = some b) : eqV g u v = some b := by
  unfold eqC at h
  split at h
  case h_12 => cases h
  all_goals
    simp only [CV.den, Option.some.injEq] at hx hy
    subst hx
    subst hy
  · split at h
    · simp only [eqV]
      rename_i hk
      rw [if_pos hk]; exact h
    · cases h
  · simp only [eqV, toList_mk]; exact h
  all_goals
    simp only [Arith.std, Option.some.injEq] at h
    subst h
    first
      | rfl
      | (rename_i b; cases b <;> rfl)

theorem eqCs_ok {ρ : List Pl} : ∀ {gs : List Nat} {xs ys : List CV} {us vs : List Value} {b : Bool}, IsL ρ xs us → IsL ρ ys vs → eqCs .std gs xs ys = some b → eqVs gs us vs = some b
  | [], [], [], us, vs, b, hx, hy, h => by
    cases us <;> cases vs <;> simp [IsL] at hx hy
    exact h
  | g :: gs, x :: xs, y :: ys, us, vs, b, hx, hy, h => by
    cases us with
    | nil => simp [IsL] at hx
    | cons u us =>
      cases vs with
      | nil => simp [IsL] at hy
      | cons v vs =>
        simp only [IsL, List.map_cons, List.cons.injEq] at hx hy
        simp only [eqCs] at h
        split at h
        · rename_i a c ha hc
          have e1 := eqC_ok hx.1 hy.1 ha
          have e2 := eqCs_ok hx.2 hy.2 hc
          simp only [eqVs, e1, e2]
          exact h
        · cases h
  | [], _ :: _, _, us, vs, b, hx, hy, h => by simp [eqCs] at h
  | [], [], _ :: _, us, vs, b, hx, hy, h => by simp [eqCs] at h
  | _ :: _, [], _, us, vs, b, hx, hy, h => by simp [eqCs] at h
  | _ :: _, _ :: _, [], us, vs, b, hx, hy, h => by simp [eqCs] at h

/-! ### The operations -/
/-- What the walker is told beside the text: types, structs that compare cell by cell. -/
structure Tbl where
  T : List (Nat × TI)
  F : List (Nat × List Nat)
  sym : Bool := false

structure Tbl.Ok (P : Program) (E : Tbl) : Prop where
  T : TblOk P E.T
  F : FlatsOk P E.F

def ag (b : Bool) (cs : List CV) (off size : Nat) : PR :=
  if b then (if Nat.ble (off + size) cs.length then .ok (.agg ((cs.drop off).take size)) else .no)
  else match cs[off]? with
    | some x => .ok (.c x)
    | none => .no

def binB (A : Arith) (op : BinOp) (x y : CV) : PR :=
  match op, eqC A 2 x y with
  | .eql, some b => .ok (.c (.bool b))
  | .neq, some b => .ok (.c (.bool (A.not b)))
  | _, _ => .no

def binA (A : Arith) (E : Tbl) (op : BinOp) (t : Nat) (xs ys : List CV) : PR :=
  match lookN E.F t with
  | some gs =>
    match op, eqCs A gs xs ys with
    | .eql, some b => .ok (.c (.bool b))
    | .neq, some b => .ok (.c (.bool (A.not b)))
    | _, _ => .no
  | none => .no

def bin (A : Arith) (E : Tbl) (op : BinOp) (t : Nat) : SV → SV → PR
  | .c (.int k a), .c (.int k' b) =>
    match op with
    | .shl => .okp (A.nneg b) (.c (.int k (A.shl k a b)))
    | .shr => .okp (A.nneg b) (.c (.int k (A.shr k a b)))
    | op => if k = k' then binI A op k a b else .no
  | .c (.str l), .c (.str m) => binS A op l m
  | .agg xs, .agg ys => binA A E op t xs ys
  | .c (.ptr k off), .c (.val (.pointer none)) => match look E.T t with
    | some i => match i.kd with
      | .ptr _ => match op with
        | .eql => .ok (.c .ff)
        | .neq => .ok (.c .tt)
        | _ => .no
      | _ => .no
    | none => .no
  | .c x, .c y => match look E.T t with
    | some i => match i.kd with
      | .bool => binB A op x y
      | _ => .no
    | none => .no
  | _, _ => .no

def un (A : Arith) (op : UnOp) : SV → PR
  | .c (.int k n) => match op with
    | .neg => match k.signed with
      | true => .okp (A.fit k (A.sub 0 n)) (.c (.int k (A.sub 0 n)))
      | false => .ok (.c (.int k (A.wrap k (A.sub 0 n))))
    | .xor => .ok (.c (.int k (A.bits .xor k (match k.signed with | true => -1 | false => k.max) n)))
    | _ => .no
  | .c .tt => match op with | .not => .ok (.c .ff) | _ => .no
  | .c .ff => match op with | .not => .ok (.c .tt) | _ => .no
  | .c (.bool b) => match op with | .not => .ok (.c (.bool (A.not b))) | _ => .no
  | _ => .no

def isU8 (E : Tbl) (e : Nat) : Bool :=
  match look E.T e with
  | some ei => match ei.kd with
    | .int .u8 => true
    | _ => false
  | none => false

/-- Cells that are integers of one kind. -/
def ints (k : IntKind) : List CV → Option (List Int)
  | [] => some []
  | .int k' n :: r => match k == k' with
    | true => match ints k r with
      | some l => some (n :: l)
      | none => none
    | false => none
  | _ => none
def conv (A : Arith) (E : Tbl) (h : List Ent) (s d : Nat) (x : SV) : PR :=
  match look E.T s, look E.T d with
  | some i, some j =>
    match j.kd, x with
    | .int k, .c (.int _ n) => .ok (.c (.int k (A.wrap k n)))
    | .str, .c (.str l) => .ok (.c (.str l))
    | .str, .c (.row r) => match i.kd, h[r]? with
      | .slice e, some (.bytes e' l) => if Nat.beq e e' && isU8 E e then .ok (.c (.str l)) else .no
      | _, _ => .no
    | .str, .c (.sl r off len cap) => match i.kd, h[r]? with
      | .slice e, some (.cells _ cs) => if isU8 E e then (match ints .u8 ((cs.drop off).take len) with
        | some ns => if Nat.beq ns.length len then .ok (.c (.str (ns.map A.byte))) else .no
        | none => .no) else .no
      | _, _ => .no
    | .str, .c (.val (.slice none 0 0)) => match i.kd with
      | .slice e => if isU8 E e then .ok (.c (.str [])) else .no
      | _ => .no
    | _, _ => .no
  | _, _ => .no

def fieldRow (E : Tbl) (t f : Nat) : Option (Nat × Nat × Bool) :=
  match look E.T t with
  | some i => match i.kd with
    | .struct fs => fs[f]?
    | _ => none
  | none => none

noncomputable def loadR (A : Arith) (E : Tbl) (h : List Ent) (t : Nat) : SV → PR
  | .c (.ptr k off) =>
    match look E.T t, h[k]? with
    | some i, some (.cells _ cs) => ag i.agg cs off i.size
    | _, _ => .no
  | .c (.eptr k i sz off) =>
    match look E.T t, (h[k]?).bind Ent.elts with
    | some ti, some (sz', n, get) => if Nat.beq sz sz' then (match ag ti.agg (get i) off ti.size with
      | .ok v => .okp (A.ltN i n) v
      | _ => .no) else .no
    | _, _ => .no
  | .c (.aptr k i off m) =>
    match look E.T t, h[k]? with
    | some ti, some (.cells _ cs) => match ti.kd, ti.agg with
      | .int kk, false => match ints kk ((cs.drop off).take m) with
        | some es => if Nat.beq es.length m then .okp (A.ltN i m) (.c (.int kk (A.sel i es))) else .no
        | none => .no
      | _, _ => .no
    | _, _ => .no
  | _ => .no

/-- Is an index not written out? -/
def isVar : Operand → Bool
  | .const _ => false
  | _ => true
/-- Where a variable of the package stands. -/
def globOf : Value → Option Nat
  | .pointer (some ⟨g, 0, none⟩) => some g
  | _ => none
def findG (g : Nat) : List Ent → Nat → Option (Nat × Nat × Nat)
  | [], _ => none
  | .glob g' sz n _ :: r, k => match Nat.beq g g' with
    | true => some (k, sz, n)
    | false => findG g r (k + 1)
  | _ :: r, k => findG g r (k + 1)
noncomputable def idxAddr (A : Arith) (E : Tbl) (h : List Ent) (sy : Bool) (t : Nat) (x i : SV) : PR :=
  match x, i with
  | .c (.row k), .c (.int _ n) =>
    match look E.T t, (h[k]?).bind Ent.view with
    | some ti, some (sz, m, _) => match ti.kd with
      | .slice e => match look E.T e with
        | some ei => if Nat.beq ei.size sz then .okp (A.inN n m) (.c (.eptr k (A.natOf n) sz 0)) else .no
        | none => .no
      | _ => .no
    | _, _ => .no
  | .c (.vsl k lo m sz'), .c (.int _ n) =>
    match look E.T t, (h[k]?).bind Ent.view with
    | some ti, some (sz, m', _) => match ti.kd with
      | .slice e => match look E.T e with
        | some ei => if Nat.beq ei.size sz && Nat.beq sz sz' then .okp (A.inN n m) (.c (.eptr k (A.addN lo (A.natOf n)) sz 0)) else .no
        | none => .no
      | _ => .no
    | _, _ => .no
  | .c (.sl k off len cap), .c (.int _ n) =>
    match look E.T t with
    | some ti => match ti.kd with
      | .slice e => match look E.T e with
        | some ei => match sy && Nat.beq ei.size 1 with
          | true => .okp (A.inN n len) (.c (.aptr k (A.natOf n) off len))
          | false => .okp (A.inN n len) (.c (.ptr k (off + n.toNat * ei.size)))
        | none => .no
      | _ => .no
    | none => .no
  | .c (.ptr k off), .c (.int _ n) =>
    match look E.T t with
    | some ti => match ti.kd with
      | .array m e => match look E.T e with
        | some ei => match sy && Nat.beq ei.size 1 with
          | true => .okp (A.inN n m) (.c (.aptr k (A.natOf n) off m))
          | false => .okp (A.inN n m) (.c (.ptr k (off + n.toNat * ei.size)))
        | none => .no
      | _ => .no
    | none => .no
  | .c (.val v), .c (.int _ n) => match globOf v with
    | some g => match findG g h 0, look E.T t with
      | some (k, sz, m), some ti => match ti.kd with
        | .array m' e => match look E.T e with
          | some ei => match Nat.beq ei.size sz && Nat.beq m m' with
            | true => .okp (A.inN n m) (.c (.eptr k (A.natOf n) sz 0))
            | false => .no
          | none => .no
        | _ => .no
      | _, _ => .no
    | none => .no
  | _, _ => .no

def idx (A : Arith) (E : Tbl) (sy : Bool) (t : Nat) (x i : SV) : PR :=
  match x, i with
  | .c (.str l), .c (.int k n) => match look E.T t with
    | some ti => match ti.kd with
      | .str => .okp (A.inS n l) (.c (.int .u8 (A.at_ l n)))
      | _ => .no
    | none => .no
  | .agg cs, .c (.int k n) => match look E.T t with
    | some ti => match ti.kd with
      | .array m e => match look E.T e with
        | some ei => match m, ag ei.agg cs 0 ei.size, ag ei.agg cs ei.size ei.size with
          | 2, .ok v, .ok w => .okps (A.inN n 2) (A.eq n 0) v w
          | m, _, _ => match ei.kd, ei.agg with
            | .int kk, false => match ints kk cs with
              | some es => if Nat.beq es.length m && Nat.beq ei.size 1 then (match sy with
                | true => .okp (A.inN n m) (.c (.int kk (A.sel (A.natOf n) es)))
                | false => .okp (A.inN n m) (.c (.int kk (es.getD n.toNat 0)))) else .no
              | none => .no
            | _, _ => .no
        | none => .no
      | _ => .no
    | none => .no
  | _, _ => .no

def bnd (d : Int) : Option SV → Option Int
  | none => some d
  | some (.c (.int _ n)) => some n
  | some _ => none

noncomputable def slc (A : Arith) (E : Tbl) (h : List Ent) (t : Nat) (x : SV) (lo hi mx : Option SV) : PR :=
  match x, mx with
  | .c (.str l), none => match look E.T t with
    | some ti => match ti.kd with
      | .str => match bnd 0 lo, bnd (A.len l) hi with
        | some a, some b => .okp (A.inSl a b l) (.c (.str (A.sub_ l a b)))
        | _, _ => .no
      | _ => .no
    | none => .no
  | .c (.ptr k off), none => match lo, hi, look E.T t with
    | none, none, some ti => match ti.kd with
      | .array m e => match look E.T e with
        | some _ => if Nat.beq m 0 then .no else .ok (.c (.sl k off m m))
        | none => .no
      | _ => .no
    | _, _, _ => .no
  | .c (.row k), none => match look E.T t, (h[k]?).bind Ent.view with
    | some ti, some (sz, m, _) => match ti.kd with
      | .slice e => match look E.T e, bnd 0 lo, bnd (A.natI m) hi with
        | some ei, some a, some b => if Nat.beq ei.size sz then .okp (A.inSlN a b m) (.c (.vsl k (A.natOf a) (A.subI b a) sz)) else .no
        | _, _, _ => .no
      | _ => .no
    | _, _ => .no
  | .c (.vsl k l0 n0 sz), none => match look E.T t, (h[k]?).bind Ent.view with
    | some ti, some (sz1, _, _) => match ti.kd with
      | .slice e => match look E.T e, bnd 0 lo, bnd (A.natI n0) hi with
        | some ei, some a, some b => if Nat.beq sz sz1 && Nat.beq ei.size sz then .okp (A.inSlN a b n0 ∧ A.cutOk a n0) (.c (.vsl k (A.addN l0 (A.natOf a)) (A.subI b a) sz)) else .no
        | _, _, _ => .no
      | _ => .no
    | _, _ => .no
  | _, _ => .no

def svCells : SV → Option (List CV)
  | .c x => some [x]
  | .agg cs => some cs
  | _ => none

def setMany : List CV → Nat → List CV → List CV
  | cs, _, [] => cs
  | cs, o, x :: xs => setMany (cs.set o x) (o + 1) xs

def fillC (pl : Nat → Option (Nat × Nat)) : List CV → List (Nat × SV) → Option (List CV)
  | cs, [] => some cs
  | cs, (i, v) :: r =>
    match pl i, svCells v with
    | some (o, n), some xs => if Nat.beq xs.length n && Nat.ble (o + n) cs.length then fillC pl (setMany cs o xs) r else none
    | _, _ => none

def bld (E : Tbl) (t : Nat) (parts : List (Nat × SV)) : PR :=
  match look E.T t with
  | some i => match i.kd with
    | .struct fs => match fillC (fun j => (fs[j]?).map fun r => (r.1, r.2.1)) i.zero parts with
      | some cs => .ok (.agg cs)
      | none => .no
    | .array m e => match look E.T e with
      | some ei => match fillC (fun j => some (j * ei.size, ei.size)) i.zero parts with
        | some cs => .ok (.agg cs)
        | none => .no
      | none => .no
    | _ => .no
  | none => .no

/-- The greater, or the lesser, of two integers. -/
def mmx (A : Arith) (g : Bool) : SV → SV → PR
  | .c (.int k a), .c (.int _ b) => match g with
    | true => .ok (.c (.int k (A.maxI a b)))
    | false => .ok (.c (.int k (A.minI a b)))
  | _, _ => .no

noncomputable def lenR (A : Arith) (E : Tbl) (h : List Ent) (t : Nat) : SV → PR
  | .c (.row k) => match look E.T t, h[k]? with
    | some i, some (.bytes _ l) => match i.kd with
      | .slice _ => .ok (.c (.int .i64 (A.len l)))
      | _ => .no
    | some i, some en => match en.view with
      | some (_, n, _) => match i.kd with
        | .slice _ => .ok (.c (.int .i64 (A.natI n)))
        | _ => .no
      | none => .no
    | _, _ => .no
  | .c (.sl k off len cap) => match look E.T t with
    | some i => match i.kd with
      | .slice _ => .ok (.c (.int .i64 (A.natI len)))
      | _ => .no
    | none => .no
  | .c (.vsl k lo n sz) => match look E.T t with
    | some i => match i.kd with
      | .slice _ => .ok (.c (.int .i64 (A.natI n)))
      | _ => .no
    | none => .no
  | .c (.str l) => match look E.T t with
    | some i => match i.kd with
      | .str => .ok (.c (.int .i64 (A.len l)))
      | _ => .no
    | none => .no
  | _ => .no

noncomputable def pev (A : Arith) (E : Tbl) (h : List Ent) (e : Operand → SV) : Op → PR
  | .move x => .ok (e x)
  | .assign x => .ok (e x)
  | .pick c a b => match e c with
    | .c .tt => .ok (e a)
    | .c .ff => .ok (e b)
    | .c (.bool q) => .split q (e a) (e b)
    | _ => .no
  | .nilCheck x => match e x with
    | .c (.ptr k off) => .ok (.c (.ptr k off))
    | .c (.eptr k i sz off) => .ok (.c (.eptr k i sz off))
    | _ => .no
  | .binOp op t x y _ => bin A E op t (e x) (e y)
  | .unOp op _ x => un A op (e x)
  | .convert s d x => conv A E h s d (e x)
  | .fieldAddr t x f => match fieldRow E t f, e x with
    | some (o, n, _), .c (.ptr k off) => if Nat.beq n 0 then .no else .ok (.c (.ptr k (off + o)))
    | some (o, n, _), .c (.eptr k i sz off) => if Nat.beq n 0 then .no else .ok (.c (.eptr k i sz (off + o)))
    | _, _ => .no
  | .field t x f => match fieldRow E t f, e x with
    | some (o, n, b), .agg cs => ag b cs o n
    | _, _ => .no
  | .load t x => loadR A E h t (e x)
  | .indexAddr t x i => idxAddr A E h (E.sym && isVar i) t (e x) (e i)
  | .extract x i => match e x with
    | .tup vs => match vs[i]? with
      | some (some y, _) => .ok (.c y)
      | some (none, cs) => .ok (.agg cs)
      | none => .no
    | _ => .no
  | .index t x i => idx A E (isVar i) t (e x) (e i)
  | .slice t x lo hi mx => slc A E h t (e x) (lo.map e) (hi.map e) (mx.map e)
  | .build t parts => bld E t (parts.toList.map fun p => (p.1, e p.2))
  | .call c => match c.callee with
    | .builtin .len => match c.argTypes.toList, c.args.toList with
      | t :: _, x :: _ => lenR A E h t (e x)
      | _, _ => .no
    | .builtin .max => match c.args with
      | ⟨[x, y]⟩ => mmx A true (e x) (e y)
      | _ => .no
    | .builtin .min => match c.args with
      | ⟨[x, y]⟩ => mmx A false (e x) (e y)
      | _ => .no
    | _ => .no
  | _ => .no
end Go.Proofs.Ytonkpggnlkkghaa.Vx
