/- The walker's operations that only compute or read: what each comes to. -/
import Derived.Test.YtophhppklaofaaaDoorM1
import Derived.Laws.StructEq
import Derived.Laws.Tables
import Derived.MapKept
import Derived.WideKeyRuns
section
namespace Go.Proofs.YtophhppklaofaaaDoor.Vx
open Go.RowKit
set_option linter.unusedVariables false
set_option linter.unusedSimpArgs false

/-! ### '==' of structs whose fields are numbers, strings and bools -/
def eqV : Nat → Value → Value → Option Bool
  | 0, .int k a, .int k' b => if k = k' then some (decide (a = b)) else none
  | 1, .string a, .string b => some (decide (a.toList = b.toList))
  | 2, .bool a, .bool b => some (a == b)
  | _, _, _ => none
def eqVs : List Nat → List Value → List Value → Option Bool
  | [], [], [] => some true
  | g :: gs, x :: xs, y :: ys =>
    match eqV g x y, eqVs gs xs ys with
    | some a, some b => some (a && b)
    | _, _ => none
  | _, _, _ => none

structure FlatOk (P : Program) (t : TypeId) (gs : List Nat) : Prop where
  guard : P.eqGuardType P.depth t = false
  eql : ∀ xs ys b, eqVs gs xs ys = some b → ∀ W, (binOp .eql t (.agg xs.toArray) (.agg ys.toArray)).run P W = .ok (.bool b) W
  neq : ∀ xs ys b, eqVs gs xs ys = some b → ∀ W, (binOp .neq t (.agg xs.toArray) (.agg ys.toArray)).run P W = .ok (.bool !b) W
  equal : ∀ xs ys b, eqVs gs xs ys = some b → ∀ W, (Op.equal t (.agg xs.toArray) (.agg ys.toArray)).run P W = .ok b W
  check : ∀ vs, shKs gs vs → ∀ em W, (Instr.checkKey em 10000 t (.agg vs.toArray)).run P W = .ok () W

def lookN : List (Nat × List Nat) → Nat → Option (List Nat)
  | [], _ => none
  | (u, i) :: r, t => if u == t then some i else lookN r t
def FlatsOk (P : Program) (F : List (Nat × List Nat)) : Prop := ∀ t gs, lookN F t = some gs → FlatOk P t gs
theorem FlatsOk.nil (P : Program) : FlatsOk P [] := fun t i h => by cases h
theorem FlatsOk.cons {P : Program} {t : Nat} {i : List Nat} {F : List (Nat × List Nat)} (h : FlatOk P t i) (k : FlatsOk P F) : FlatsOk P ((t, i) :: F) := fun u j hu => by
  unfold lookN at hu
  by_cases e : t = u
  · subst e; simp at hu; rw [← hu]; exact h
  · simp [e] at hu; exact k u j hu

def eqC (A : Arith) : Nat → CV → CV → Option Bool
  | 0, .int k a, .int k' b => if k = k' then some (A.eq a b) else none
  | 1, .str l, .str m => some (A.eqS l m)
  | 2, .tt, .tt => some true
  | 2, .tt, .ff => some false
  | 2, .ff, .tt => some false
  | 2, .ff, .ff => some true
  | 2, .tt, .bool b => some b
  | 2, .bool b, .tt => some b
  | 2, .ff, .bool b => some (A.not b)
  | 2, .bool b, .ff => some (A.not b)
  | 2, .bool a, .bool b => some (A.eqB a b)
  | _, _, _ => none
def eqCs (A : Arith) : List Nat → List CV → List CV → Option Bool
  | [], [], [] => some true
  | g :: gs, x :: xs, y :: ys =>
    match eqC A g x y, eqCs A gs xs ys with
    | some a, some b => some (A.and a b)
    | _, _ => none
  | _, _, _ => none

theorem eqC_ok {ρ : List Pl} {g : Nat} {x y : CV} {u v : Value} {b : Bool} (hx : x.den ρ = some u) (hy : y.den ρ = some v) (h : eqC .std g x y = some b) : eqV g u v = some b := by
  unfold eqC at h
  split at h
  case h_12 => cases h
  all_goals
    simp only [CV.den, Option.some.injEq] at hx hy
    subst hx
    subst hy
  · split at h
    · simp only [eqV]
      rename_i hk
      rw [if_pos hk]; exact h
    · cases h
  · simp only [eqV, toList_mk]; exact h
  all_goals
    simp only [Arith.std, Option.some.injEq] at h
    subst h
    first
      | rfl
      | (rename_i b; cases b <;> rfl)

theorem eqCs_ok {ρ : List Pl} : ∀ {gs : List Nat} {xs ys : List CV} {us vs : List Value} {b : Bool}, IsL ρ xs us → IsL ρ ys vs → eqCs .std gs xs ys = some b → eqVs gs us vs = some b
  | [], [], [], us, vs, b, hx, hy, h => by
    cases us <;> cases vs <;> simp [IsL] at hx hy
    exact h
  | g :: gs, x :: xs, y :: ys, us, vs, b, hx, hy, h => by
    cases us with
    | nil => simp [IsL] at hx
    | cons u us =>
      cases vs with
      | nil => simp [IsL] at hy
      | cons v vs =>
        simp only [IsL, List.map_cons, List.cons.injEq] at hx hy
        simp only [eqCs] at h
        split at h
        · rename_i a c ha hc
          have e1 := eqC_ok hx.1 hy.1 ha
          have e2 := eqCs_ok hx.2 hy.2 hc
          simp only [eqVs, e1, e2]
          exact h
        · cases h
  | [], _ :: _, _, us, vs, b, hx, hy, h => by simp [eqCs] at h
  | [], [], _ :: _, us, vs, b, hx, hy, h => by simp [eqCs] at h
  | _ :: _, [], _, us, vs, b, hx, hy, h => by simp [eqCs] at h
  | _ :: _, _ :: _, [], us, vs, b, hx, hy, h => by simp [eqCs] at h

/-! ### The operations -/
/-- What the walker is told beside the text: types, structs that compare cell by cell. -/
structure Tbl where
  T : List (Nat × TI)
  F : List (Nat × List Nat)
  sym : Bool := false
  flat : Bool := false
  mks : Bool := false
  Q : List (Nat × (Nat × Nat × Nat)) := []

structure Tbl.Ok (P : Program) (E : Tbl) : Prop where
  T : TblOk P E.T
  F : FlatsOk P E.F

def ag (b : Bool) (cs : List CV) (off size : Nat) : PR :=
  if b then (if Nat.ble (off + size) cs.length then .ok (.agg ((cs.drop off).take size)) else .no)
  else match cs[off]? with
    | some x => .ok (.c x)
    | none => .no

def binB (A : Arith) (op : BinOp) (x y : CV) : PR :=
  match op, eqC A 2 x y with
  | .eql, some b => .ok (.c (.bool b))
  | .neq, some b => .ok (.c (.bool (A.not b)))
  | _, _ => .no

def binA (A : Arith) (E : Tbl) (op : BinOp) (t : Nat) (xs ys : List CV) : PR :=
  match lookN E.F t with
  | some gs =>
    match op, eqCs A gs xs ys with
    | .eql, some b => .ok (.c (.bool b))
    | .neq, some b => .ok (.c (.bool (A.not b)))
    | _, _ => .no
  | none => .no

def bin (A : Arith) (E : Tbl) (op : BinOp) (t : Nat) : SV → SV → PR
  | .c (.int k a), .c (.int k' b) =>
    match op with
    | .shl => .okp (A.nneg b) (.c (.int k (A.shl k a b)))
    | .shr => .okp (A.nneg b) (.c (.int k (A.shr k a b)))
    | op => if k = k' then binI A op k a b else .no
  | .c (.str l), .c (.str m) => binS A op l m
  | .agg xs, .agg ys => binA A E op t xs ys
  | .c (.ptr k off), .c (.val (.pointer none)) => match look E.T t with
    | some i => match i.kd with
      | .ptr _ => match op with
        | .eql => .ok (.c .ff)
        | .neq => .ok (.c .tt)
        | _ => .no
      | _ => .no
    | none => .no
  | .c x, .c y => match look E.T t with
    | some i => match i.kd with
      | .bool => binB A op x y
      | _ => .no
    | none => .no
  | _, _ => .no

def un (A : Arith) (op : UnOp) : SV → PR
  | .c (.int k n) => match op with
    | .neg => match k.signed with
      | true => .okp (A.fit k (A.sub 0 n)) (.c (.int k (A.sub 0 n)))
      | false => .ok (.c (.int k (A.wrap k (A.sub 0 n))))
    | .xor => .ok (.c (.int k (A.bits .xor k (match k.signed with | true => -1 | false => k.max) n)))
    | _ => .no
  | .c .tt => match op with | .not => .ok (.c .ff) | _ => .no
  | .c .ff => match op with | .not => .ok (.c .tt) | _ => .no
  | .c (.bool b) => match op with | .not => .ok (.c (.bool (A.not b))) | _ => .no
  | _ => .no

def isU8 (E : Tbl) (e : Nat) : Bool :=
  match look E.T e with
  | some ei => match ei.kd with
    | .int .u8 => true
    | _ => false
  | none => false

/-! ### Maps whose keys are numbers or structs of one shape, and whose values are numbers -/
def mapTy (E : Tbl) (t : Nat) : Option (List Nat) :=
  match look E.T t with
  | some ti => match ti.kd with
    | .map kt et => match look E.T et, look E.T kt with
      | some ei, some ki => match ei.kd, ei.zero, ki.kd with
        | .int .i64, [.int .i64 0], .int .i64 => some []
        | .int .i64, [.int .i64 0], .struct _ => match lookN E.F kt with
          | some (g :: gs) => some (g :: gs)
          | _ => none
        | _, _, _ => none
      | _, _ => none
    | _ => none
  | none => none
def cellsK : List Nat → List CV → Option (List Value)
  | [], [] => some []
  | 0 :: gs, .int .i64 n :: r => match cellsK gs r with
    | some vs => some (.int .i64 n :: vs)
    | none => none
  | 1 :: gs, .str l :: r => match cellsK gs r with
    | some vs => some (.string ⟨l.toArray⟩ :: vs)
    | none => none
  | 2 :: gs, .bool b :: r => match cellsK gs r with
    | some vs => some (.bool b :: vs)
    | none => none
  | 2 :: gs, .tt :: r => match cellsK gs r with
    | some vs => some (.bool true :: vs)
    | none => none
  | 2 :: gs, .ff :: r => match cellsK gs r with
    | some vs => some (.bool false :: vs)
    | none => none
  | _, _ => none
def keyC : List Nat → SV → Option Value
  | [], .c (.int .i64 n) => some (.int .i64 n)
  | g :: gs, .agg cs => match cellsK (g :: gs) cs with
    | some vs => some (.agg vs.toArray)
    | none => none
  | _, _ => none
open Classical in
/-- The number under a key, or 0. -/
noncomputable def mpGet (key : Value) : List (Value × Int) → Int
  | [] => 0
  | q :: r => if q.1 = key then q.2 else mpGet key r
open Classical in
noncomputable def mpSet (key : Value) (n : Int) : List (Value × Int) → List (Value × Int)
  | [] => [(key, n)]
  | q :: r => if q.1 = key then (key, n) :: r else q :: mpSet key n r
/-- The kinds of a record's numbers; behind them a pointer. -/
def kindsQ : List CV → Option (List IntKind)
  | [.val (.pointer none)] => some []
  | .int k 0 :: r => match kindsQ r with
    | some ks => some (k :: ks)
    | none => none
  | _ => none
def look3 : List (Nat × (Nat × Nat × Nat)) → Nat → Option (Nat × Nat × Nat)
  | [], _ => none
  | (u, i) :: r, t => match Nat.beq u t with
    | true => some i
    | false => look3 r t
/-- A map with records as values. -/
def mapTyQ (E : Tbl) (t : Nat) : Option MTy :=
  match look3 E.Q t with
  | some (T, e, sz) => match look E.T t with
    | some ti => match ti.kd with
      | .map kt et => match look E.T et, look E.T kt with
        | some ei, some ki => match ki.kd, lookN E.F kt, kindsQ ei.zero with
          | .struct _, some (g :: gs), some (k :: ks) => some ⟨g :: gs, k :: ks, T, e, sz⟩
          | _, _, _ => none
        | _, _ => none
      | _ => none
    | none => none
  | none => none
open Classical in
/-- Is there a record under a key? -/
noncomputable def mqHas (key : Value) : List (Value × MRec) → Bool
  | [] => false
  | q :: r => if q.1 = key then true else mqHas key r
open Classical in
noncomputable def mqRec (key : Value) : List (Value × MRec) → MRec
  | [] => ⟨fun _ => 0, 0, fun _ => []⟩
  | q :: r => if q.1 = key then q.2 else mqRec key r
open Classical in
noncomputable def mqSet (key : Value) (m : MRec) : List (Value × MRec) → List (Value × MRec)
  | [] => [(key, m)]
  | q :: r => if q.1 = key then (key, m) :: r else q :: mqSet key m r
noncomputable def mqNum (key : Value) (l : List (Value × MRec)) : Nat → Int := (mqRec key l).num
noncomputable def mqN (key : Value) (l : List (Value × MRec)) : Nat := (mqRec key l).n
noncomputable def mqRow (key : Value) (l : List (Value × MRec)) : Nat → List CV := (mqRec key l).get
/-- The numbers of a record that is put in, and the entry that its pointer leads to. -/
def recC : List IntKind → List CV → Option (List Int × Nat)
  | [], [.ptr k 0] => some ([], k)
  | kd :: ks, .int kd' n :: r => match kd == kd' with
    | true => match recC ks r with
      | some (ns, k) => some (n :: ns, k)
      | none => none
    | false => none
  | _, _ => none
def numL (ns : List Int) (i : Nat) : Int := ns.getD i 0
def resQ (cm : Bool) (cs : List CV) (b : CV) : SV := match cm with
  | true => .tup [(none, cs), (some b, [])]
  | false => .agg cs
noncomputable def lookQ (E : Tbl) (h : List Ent) (t : Nat) (m k : SV) : Option (MTy × List IntKind × Value × List (Value × MRec)) :=
  match m with
  | .c (.row j) => match h[j]? with
    | some (.mq mt l) => match mapTyQ E t with
      | some mt' => match mt'.gs == mt.gs, keyC mt.gs k with
        | true, some kv => some (mt, mt'.ks, kv, l)
        | _, _ => none
      | none => none
    | _ => none
  | _ => none
noncomputable def lookM (E : Tbl) (h : List Ent) (t : Nat) (cm : Bool) (m k : SV) : PR :=
  match m, cm with
  | .c (.row j), false => match mapTy E t, h[j]? with
    | some gs, some (.mp gs' l) => match gs == gs' with
      | true => match keyC gs k with
        | some v => .ok (.c (.int .i64 (mpGet v l)))
        | none => .no
      | false => .no
    | _, _ => .no
  | _, _ => .no
/-- Cells that are integers of one kind. -/
def ints (k : IntKind) : List CV → Option (List Int)
  | [] => some []
  | .int k' n :: r => match k == k' with
    | true => match ints k r with
      | some l => some (n :: l)
      | none => none
    | false => none
  | _ => none
def conv (A : Arith) (E : Tbl) (h : List Ent) (s d : Nat) (x : SV) : PR :=
  match look E.T s, look E.T d with
  | some i, some j =>
    match j.kd, x with
    | .int k, .c (.int _ n) => .ok (.c (.int k (A.wrap k n)))
    | .str, .c (.str l) => .ok (.c (.str l))
    | .str, .c (.row r) => match i.kd, h[r]? with
      | .slice e, some (.bytes e' l) => if Nat.beq e e' && isU8 E e then .ok (.c (.str l)) else .no
      | _, _ => .no
    | .str, .c (.sl r off len cap) => match i.kd, h[r]? with
      | .slice e, some (.cells _ cs) => if isU8 E e then (match ints .u8 ((cs.drop off).take len) with
        | some ns => if Nat.beq ns.length len then .ok (.c (.str (ns.map A.byte))) else .no
        | none => .no) else .no
      | _, _ => .no
    | .str, .c (.val (.slice none 0 0)) => match i.kd with
      | .slice e => if isU8 E e then .ok (.c (.str [])) else .no
      | _ => .no
    | _, _ => .no
  | _, _ => .no

def fieldRow (E : Tbl) (t f : Nat) : Option (Nat × Nat × Bool) :=
  match look E.T t with
  | some i => match i.kd with
    | .struct fs => fs[f]?
    | _ => none
  | none => none

/-- Cells that hold no slices. -/
def plC (f : Nat → Cell) : Nat → Nat → Option (List CV)
  | _, 0 => some []
  | o, n + 1 => match f o with
    | .pl x => match plC f (o + 1) n with
      | some r => some (x :: r)
      | none => none
    | _ => none
noncomputable def loadR (A : Arith) (E : Tbl) (h : List Ent) (t : Nat) : SV → PR
  | .c (.ptr k off) =>
    match look E.T t, h[k]? with
    | some i, some (.cells _ cs) => ag i.agg cs off i.size
    | _, _ => .no
  | .c (.eptr k i sz off) =>
    match look E.T t, (h[k]?).bind Ent.elts with
    | some ti, some (sz', n, get) => if Nat.beq sz sz' then (match ag ti.agg (get i) off ti.size with
      | .ok v => .okp (A.ltN i n) v
      | _ => .no) else .no
    | some ti, none => match (h[k]?).bind Ent.dview with
      | some (_, sz', n, get) => if Nat.beq sz sz' && Nat.ble (off + ti.size) sz' then (match plC (get i) off ti.size with
        | some cs => match ag ti.agg cs 0 ti.size with
          | .ok v => .okp (A.ltN i n) v
          | _ => .no
        | none => .no) else .no
      | none => .no
    | none, _ => .no
  | .c (.aptr k i off m) =>
    match look E.T t, h[k]? with
    | some ti, some (.cells _ cs) => match ti.kd, ti.agg with
      | .int kk, false => match ints kk ((cs.drop off).take m) with
        | some es => if Nat.beq es.length m then .okp (A.ltN i m) (.c (.int kk (A.sel i es))) else .no
        | none => .no
      | _, _ => .no
    | _, _ => .no
  | _ => .no

/-- Is an index not written out? -/
def isVar : Operand → Bool
  | .const _ => false
  | _ => true
/-- Where a variable of the package stands. -/
def globOf : Value → Option Nat
  | .pointer (some ⟨g, 0, none⟩) => some g
  | _ => none
def findG (g : Nat) : List Ent → Nat → Option (Nat × Nat × Nat)
  | [], _ => none
  | .glob g' sz n _ :: r, k => match Nat.beq g g' with
    | true => some (k, sz, n)
    | false => findG g r (k + 1)
  | _ :: r, k => findG g r (k + 1)
noncomputable def idxAddr (A : Arith) (E : Tbl) (h : List Ent) (sy : Bool) (t : Nat) (x i : SV) : PR :=
  match x, i with
  | .c (.row k), .c (.int _ n) =>
    match look E.T t, (h[k]?).bind Ent.shape with
    | some ti, some (sz, m) => match ti.kd with
      | .slice e => match look E.T e with
        | some ei => if Nat.beq ei.size sz then .okp (A.inN n m) (.c (.eptr k (A.natOf n) sz 0)) else .no
        | none => .no
      | _ => .no
    | _, _ => .no
  | .c (.vsl k lo m sz'), .c (.int _ n) =>
    match look E.T t, (h[k]?).bind Ent.shape with
    | some ti, some (sz, m') => match ti.kd with
      | .slice e => match look E.T e with
        | some ei => if Nat.beq ei.size sz && Nat.beq sz sz' then .okp (A.inN n m) (.c (.eptr k (A.addN lo (A.natOf n)) sz 0)) else .no
        | none => .no
      | _ => .no
    | _, _ => .no
  | .c (.sl k off len cap), .c (.int _ n) =>
    match look E.T t with
    | some ti => match ti.kd with
      | .slice e => match look E.T e with
        | some ei => match sy && Nat.beq ei.size 1 with
          | true => .okp (A.inN n len) (.c (.aptr k (A.natOf n) off len))
          | false => .okp (A.inN n len) (.c (.ptr k (off + n.toNat * ei.size)))
        | none => .no
      | _ => .no
    | none => .no
  | .c (.ptr k off), .c (.int _ n) =>
    match look E.T t with
    | some ti => match ti.kd with
      | .array m e => match look E.T e with
        | some ei => match sy && Nat.beq ei.size 1 with
          | true => .okp (A.inN n m) (.c (.aptr k (A.natOf n) off m))
          | false => .okp (A.inN n m) (.c (.ptr k (off + n.toNat * ei.size)))
        | none => .no
      | _ => .no
    | none => .no
  | .c (.val v), .c (.int _ n) => match globOf v with
    | some g => match findG g h 0, look E.T t with
      | some (k, sz, m), some ti => match ti.kd with
        | .array m' e => match look E.T e with
          | some ei => match Nat.beq ei.size sz && Nat.beq m m' with
            | true => .okp (A.inN n m) (.c (.eptr k (A.natOf n) sz 0))
            | false => .no
          | none => .no
        | _ => .no
      | _, _ => .no
    | none => .no
  | _, _ => .no

def idx (A : Arith) (E : Tbl) (sy : Bool) (t : Nat) (x i : SV) : PR :=
  match x, i with
  | .c (.str l), .c (.int k n) => match look E.T t with
    | some ti => match ti.kd with
      | .str => .okp (A.inS n l) (.c (.int .u8 (A.at_ l n)))
      | _ => .no
    | none => .no
  | .agg cs, .c (.int k n) => match look E.T t with
    | some ti => match ti.kd with
      | .array m e => match look E.T e with
        | some ei => match m, ag ei.agg cs 0 ei.size, ag ei.agg cs ei.size ei.size with
          | 2, .ok v, .ok w => .okps (A.inN n 2) (A.eq n 0) v w
          | m, _, _ => match ei.kd, ei.agg with
            | .int kk, false => match ints kk cs with
              | some es => if Nat.beq es.length m && Nat.beq ei.size 1 then (match sy with
                | true => .okp (A.inN n m) (.c (.int kk (A.sel (A.natOf n) es)))
                | false => .okp (A.inN n m) (.c (.int kk (es.getD n.toNat 0)))) else .no
              | none => .no
            | _, _ => .no
        | none => .no
      | _ => .no
    | none => .no
  | _, _ => .no

def bnd (d : Int) : Option SV → Option Int
  | none => some d
  | some (.c (.int _ n)) => some n
  | some _ => none

noncomputable def slc (A : Arith) (E : Tbl) (h : List Ent) (t : Nat) (x : SV) (lo hi mx : Option SV) : PR :=
  match x, mx with
  | .c (.str l), none => match look E.T t with
    | some ti => match ti.kd with
      | .str => match bnd 0 lo, bnd (A.len l) hi with
        | some a, some b => .okp (A.inSl a b l) (.c (.str (A.sub_ l a b)))
        | _, _ => .no
      | _ => .no
    | none => .no
  | .c (.ptr k off), none => match lo, hi, look E.T t with
    | none, none, some ti => match ti.kd with
      | .array m e => match look E.T e with
        | some _ => if Nat.beq m 0 then .no else .ok (.c (.sl k off m m))
        | none => .no
      | _ => .no
    | _, _, _ => .no
  | .c (.row k), none => match look E.T t, (h[k]?).bind Ent.shape with
    | some ti, some (sz, m) => match ti.kd with
      | .slice e => match look E.T e, bnd 0 lo, bnd (A.natI m) hi with
        | some ei, some a, some b => if Nat.beq ei.size sz then .okp (A.inSlN a b m) (.c (.vsl k (A.natOf a) (A.subI b a) sz)) else .no
        | _, _, _ => .no
      | _ => .no
    | _, _ => .no
  | .c (.vsl k l0 n0 sz), none => match look E.T t, (h[k]?).bind Ent.shape with
    | some ti, some (sz1, _) => match ti.kd with
      | .slice e => match look E.T e, bnd 0 lo, bnd (A.natI n0) hi with
        | some ei, some a, some b => if Nat.beq sz sz1 && Nat.beq ei.size sz then .okp (A.inSlN a b n0 ∧ A.cutOk a n0) (.c (.vsl k (A.addN l0 (A.natOf a)) (A.subI b a) sz)) else .no
        | _, _, _ => .no
      | _ => .no
    | _, _ => .no
  | _, _ => .no

def svCells : SV → Option (List CV)
  | .c x => some [x]
  | .agg cs => some cs
  | _ => none

def setMany : List CV → Nat → List CV → List CV
  | cs, _, [] => cs
  | cs, o, x :: xs => setMany (cs.set o x) (o + 1) xs

def fillC (pl : Nat → Option (Nat × Nat)) : List CV → List (Nat × SV) → Option (List CV)
  | cs, [] => some cs
  | cs, (i, v) :: r =>
    match pl i, svCells v with
    | some (o, n), some xs => if Nat.beq xs.length n && Nat.ble (o + n) cs.length then fillC pl (setMany cs o xs) r else none
    | _, _ => none

def bld (E : Tbl) (t : Nat) (parts : List (Nat × SV)) : PR :=
  match look E.T t with
  | some i => match i.kd with
    | .struct fs => match fillC (fun j => (fs[j]?).map fun r => (r.1, r.2.1)) i.zero parts with
      | some cs => .ok (.agg cs)
      | none => .no
    | .array m e => match look E.T e with
      | some ei => match fillC (fun j => some (j * ei.size, ei.size)) i.zero parts with
        | some cs => .ok (.agg cs)
        | none => .no
      | none => .no
    | _ => .no
  | none => .no

/-- The greater, or the lesser, of two integers. -/
def mmx (A : Arith) (g : Bool) : SV → SV → PR
  | .c (.int k a), .c (.int _ b) => match g with
    | true => .ok (.c (.int k (A.maxI a b)))
    | false => .ok (.c (.int k (A.minI a b)))
  | _, _ => .no

/-- How many keys a map has. -/
def mpLen (l : List (Value × Int)) : Nat := l.length
noncomputable def lenR (A : Arith) (E : Tbl) (h : List Ent) (t : Nat) : SV → PR
  | .c (.row k) => match look E.T t, h[k]? with
    | some i, some (.bytes _ l) => match i.kd with
      | .slice _ => .ok (.c (.int .i64 (A.len l)))
      | _ => .no
    | some i, some en => match en.shape with
      | some (_, n) => match i.kd with
        | .slice _ => .ok (.c (.int .i64 (A.natI n)))
        | _ => .no
      | none => match en, i.kd with
        | .mp _ l, .map _ _ => .ok (.c (.int .i64 (A.natI (mpLen l))))
        | _, _ => .no
    | _, _ => .no
  | .c (.sl k off len cap) => match look E.T t with
    | some i => match i.kd with
      | .slice _ => .ok (.c (.int .i64 (A.natI len)))
      | _ => .no
    | none => .no
  | .c (.vsl k lo n sz) => match look E.T t with
    | some i => match i.kd with
      | .slice _ => .ok (.c (.int .i64 (A.natI n)))
      | _ => .no
    | none => .no
  | .c (.str l) => match look E.T t with
    | some i => match i.kd with
      | .str => .ok (.c (.int .i64 (A.len l)))
      | _ => .no
    | none => .no
  | _ => .no

/-- What a function value holds. -/
def caps1 : List SV → Option (List CV)
  | [] => some []
  | .c x :: r => match caps1 r with
    | some xs => some (x :: xs)
    | none => none
  | _ => none
def mkF : Fn → List Operand → List SV → PR
  | .func f, [], l => match caps1 l with
    | some cs => .ok (.fn f cs)
    | none => .no
  | _, _, _ => .no
/-- A slice beside nil: which it is, is not known where there are no elements. -/
noncomputable def binN (A : Arith) (E : Tbl) (h : List Ent) (op : BinOp) (t : Nat) (x y : SV) : PR :=
  match x, y with
  | .c (.row k), .c (.val (.slice none 0 0)) => match look E.T t, (h[k]?).bind Ent.shape with
    | some ti, some (sz, n) => match ti.kd with
      | .slice _ => match op with
        | .eql => .fork (n = 0) (.c .tt) (.c .ff)
        | .neq => .fork (n = 0) (.c .ff) (.c .tt)
        | _ => .no
      | _ => .no
    | _, _ => .no
  | x, y => bin A E op t x y
noncomputable def pev (A : Arith) (E : Tbl) (h : List Ent) (e : Operand → SV) : Op → PR
  | .move x => .ok (e x)
  | .assign x => .ok (e x)
  | .pick c a b => match e c with
    | .c .tt => .ok (e a)
    | .c .ff => .ok (e b)
    | .c (.bool q) => .split q (e a) (e b)
    | _ => .no
  | .nilCheck x => match e x with
    | .c (.ptr k off) => .ok (.c (.ptr k off))
    | .c (.eptr k i sz off) => .ok (.c (.eptr k i sz off))
    | .fn f cs => .ok (.fn f cs)
    | _ => .no
  | .binOp op t x y _ => binN A E h op t (e x) (e y)
  | .unOp op _ x => un A op (e x)
  | .convert s d x => conv A E h s d (e x)
  | .fieldAddr t x f => match fieldRow E t f, e x with
    | some (o, n, _), .c (.ptr k off) => if Nat.beq n 0 then .no else .ok (.c (.ptr k (off + o)))
    | some (o, n, _), .c (.eptr k i sz off) => if Nat.beq n 0 then .no else .ok (.c (.eptr k i sz (off + o)))
    | _, _ => .no
  | .field t x f => match fieldRow E t f, e x with
    | some (o, n, b), .agg cs => ag b cs o n
    | _, _ => .no
  | .load t x => loadR A E h t (e x)
  | .lookup t m k cm => lookM E h t cm (e m) (e k)
  | .indexAddr t x i => idxAddr A E h (E.sym && isVar i) t (e x) (e i)
  | .extract x i => match e x with
    | .tup vs => match vs[i]? with
      | some (some y, _) => .ok (.c y)
      | some (none, cs) => .ok (.agg cs)
      | none => .no
    | _ => .no
  | .index t x i => idx A E (isVar i) t (e x) (e i)
  | .slice t x lo hi mx => slc A E h t (e x) (lo.map e) (hi.map e) (mx.map e)
  | .makeFunc fn first caps => mkF fn first.toList (caps.toList.map e)
  | .build t parts => bld E t (parts.toList.map fun p => (p.1, e p.2))
  | .call c => match c.callee with
    | .builtin .len => match c.argTypes.toList, c.args.toList with
      | t :: _, x :: _ => lenR A E h t (e x)
      | _, _ => .no
    | .builtin .max => match c.args with
      | ⟨[x, y]⟩ => mmx A true (e x) (e y)
      | _ => .no
    | .builtin .min => match c.args with
      | ⟨[x, y]⟩ => mmx A false (e x) (e y)
      | _ => .no
    | _ => .no
  | _ => .no
end Go.Proofs.YtophhppklaofaaaDoor.Vx
end

section
/- The walker's operations that only compute or read: that each comes to what is said. -/
namespace Go.Proofs.YtophhppklaofaaaDoor.Vx
open Go.RowKit
set_option linter.unusedVariables false
set_option linter.unusedSimpArgs false

def PR.givesN (ρ : List Pl) (P : Program) (S : World → Prop) (m : Sem Next) : PR → Prop
  | .ok v => ∃ u, v.is ρ u ∧ ∀ W, S W → m.run P W = .ok (.value u) W
  | .okp pre v => pre → ∃ u, v.is ρ u ∧ ∀ W, S W → m.run P W = .ok (.value u) W
  | .split b x y => ∃ u, (if b then x else y).is ρ u ∧ ∀ W, S W → m.run P W = .ok (.value u) W
  | .okps pre b x y => pre → ∃ u, (if b then x else y).is ρ u ∧ ∀ W, S W → m.run P W = .ok (.value u) W
  | .fork c x y => ∃ b : Bool, (b = true → c) ∧ ∃ u, (if b then x else y).is ρ u ∧ ∀ W, S W → m.run P W = .ok (.value u) W
  | .no => True

theorem PR.lift {ρ : List Pl} {P : Program} {S : World → Prop} {m : Sem Value} {r : PR} (h : r.gives ρ P S m) : r.givesN ρ P S (do pure (Next.value (← m))) := by
  have key : ∀ {u : Value}, (∀ W, S W → m.run P W = .ok u W) → ∀ W, S W → (do pure (Next.value (← m)) : Sem Next).run P W = .ok (.value u) W := fun hu W hW => by
    rw [Sem.run_bind, hu W hW]; rfl
  cases r with
  | ok v => obtain ⟨u, h1, h2⟩ := h; exact ⟨u, h1, key h2⟩
  | okp pre v => intro hp; obtain ⟨u, h1, h2⟩ := h hp; exact ⟨u, h1, key h2⟩
  | split b x y => obtain ⟨u, h1, h2⟩ := h; exact ⟨u, h1, key h2⟩
  | okps pre b x y => intro hp; obtain ⟨u, h1, h2⟩ := h hp; exact ⟨u, h1, key h2⟩
  | fork c x y => obtain ⟨b, hc, u, h1, h2⟩ := h; exact ⟨b, hc, u, h1, key h2⟩
  | no => trivial

/-- What else is known of what is read. -/
def MemDat (ρ : List Pl) (h : List Ent) (W : World) : Prop := ∀ (k : Nat) (e : Ent) (p : Pl), h[k]? = some e → ρ[k]? = some p → ∃ D, e.dat W D p
def MemOk (ρ : List Pl) (h : List Ent) (W : World) : Prop := ∀ (k : Nat) (e : Ent) (p : Pl), h[k]? = some e → ρ[k]? = some p → e.ok ρ p W

theorem ag_ok {ρ : List Pl} {cs : List CV} {vs : List Value} (h : IsL ρ cs vs) (b : Bool) (off size : Nat) :
    match ag b cs off size with
    | .ok v => ∃ u, v.is ρ u ∧ (if b then (off + size ≤ vs.length ∧ u = .agg ((vs.drop off).take size).toArray) else vs[off]? = some u)
    | .no => True
    | _ => False := by
  unfold ag
  cases b with
  | true =>
    by_cases hn : off + size ≤ cs.length
    · simp only [if_true, Nat.ble_eq, hn]
      exact ⟨_, ⟨_, (h.drop off).take size, rfl⟩, by rw [← h.len]; exact hn, rfl⟩
    · simp only [if_true, Nat.ble_eq, hn, if_false]
  | false =>
    simp only [Bool.false_eq_true, if_false]
    cases hc : cs[off]? with
    | none => trivial
    | some x =>
      obtain ⟨u, h1, h2⟩ := h.get hc
      exact ⟨u, h2, h1⟩

theorem isL_setMany {ρ : List Pl} : ∀ {xs cs : List CV} {us vs : List Value} (o : Nat), IsL ρ xs us → IsL ρ cs vs → IsL ρ (setMany cs o xs) ((us.zipIdx.foldl (fun cs (c, j) => cs.setIfInBounds (o + j) c) vs.toArray).toList)
  | [], cs, us, vs, o, hx, hc => by
    cases us with
    | nil => exact hc
    | cons => simp [IsL] at hx
  | x :: xs, cs, us, vs, o, hx, hc => by
    cases us with
    | nil => simp [IsL] at hx
    | cons u us =>
      simp only [IsL, List.map_cons, List.cons.injEq] at hx
      have ih := isL_setMany (xs := xs) (us := us) (o + 1) hx.2 (hc.set o hx.1)
      simp only [setMany]
      simp only [List.zipIdx_cons, List.foldl_cons, Nat.add_zero, List.setIfInBounds_toArray]
      rw [List.zipIdx_eq_map_add, List.foldl_map]
      have e : ∀ j, o + (0 + 1 + j) = o + 1 + j := fun j => by omega
      have e2 : (fun (x : Array Value) (y : Value × Nat) => x.setIfInBounds (o + (y.2 + (0 + 1))) y.1) = fun x y => x.setIfInBounds (o + 1 + y.2) y.1 := by
        funext x y; rw [show o + (y.2 + (0 + 1)) = o + 1 + y.2 by omega]
      first
        | (rw [e2]; exact ih)
        | (simpa [Nat.add_assoc, Nat.add_comm, Nat.add_left_comm] using ih)

theorem svCells_ok {ρ : List Pl} {v : SV} {u : Value} {xs : List CV} (h : v.is ρ u) (hc : svCells v = some xs) : ∃ us, IsL ρ xs us ∧ u.cells = us.toArray := by
  cases v with
  | c x =>
    simp only [svCells, Option.some.injEq] at hc
    subst hc
    have h1 := CV.den_oneCell h
    refine ⟨[u], IsL.cons h (IsL.nil ρ), ?_⟩
    cases u <;> first | rfl | cases h1
  | agg cs =>
    simp only [svCells, Option.some.injEq] at hc
    subst hc
    obtain ⟨vs, h1, rfl⟩ := h
    exact ⟨vs, h1, rfl⟩
  | _ => cases hc

def IsP (ρ : List Pl) : List (Nat × SV) → List (Nat × Value) → Prop
  | [], us => us = []
  | e :: es, us => ∃ u us', us = (e.1, u) :: us' ∧ e.2.is ρ u ∧ IsP ρ es us'

theorem fill_ok {ρ : List Pl} {pl : Nat → Option (Nat × Nat)} : ∀ {ps : List (Nat × SV)} {qs : List (Nat × Value)} {cs : List CV} {vs : List Value} {cs' : List CV}, IsP ρ ps qs → IsL ρ cs vs → fillC pl cs ps = some cs' →
    ∃ vs', IsL ρ cs' vs' ∧ Instr.fill pl vs.toArray qs = some vs'.toArray
  | [], qs, cs, vs, cs', hp, hc, h => by
    cases hp
    simp only [fillC, Option.some.injEq] at h
    subst h
    exact ⟨vs, hc, rfl⟩
  | (i, v) :: ps, qs, cs, vs, cs', hp, hc, h => by
    obtain ⟨u, qs', rfl, h1, h2⟩ := hp
    simp only [fillC] at h
    split at h
    · rename_i o n xs hpl hxs
      split at h
      · rename_i hb
        simp only [Bool.and_eq_true, Nat.beq_eq, Nat.ble_eq] at hb
        obtain ⟨us, hu1, hu2⟩ := svCells_ok h1 hxs
        have hset := isL_setMany o hu1 hc
        obtain ⟨vs', hv1, hv2⟩ := fill_ok h2 hset h
        refine ⟨vs', hv1, ?_⟩
        have e1 : us.length = n := by rw [← hu1.len]; exact hb.1
        have e2 : vs.length = cs.length := hc.len.symm
        have e3 : ¬ (us.toArray.size ≠ n || decide (o + us.toArray.size > vs.toArray.size)) = true := by
          simp [e1, e2]
          exact hb.2
        simp only [Instr.fill, hpl, hu2]
        rw [if_neg e3]
        have e4 : us.toArray.zipIdx.foldl (fun cs (c, j) => cs.setIfInBounds (o + j) c) vs.toArray = (us.zipIdx.foldl (fun cs (c, j) => cs.setIfInBounds (o + j) c) vs.toArray) := by
          simp
        rw [e4]
        simpa using hv2
      · cases h
    · cases h

theorem fieldsOf_get {P : Program} : ∀ {fs : List Field} {r : List (Nat × Nat × Bool)}, fieldsOf P fs = some r → ∀ {j : Nat} {o n : Nat} {b : Bool}, r[j]? = some (o, n, b) →
    ∃ f i d, fs[j]? = some f ∧ P.info? f.type = some i ∧ P.underlying f.type = some d ∧ f.offset = o ∧ i.size = n ∧ aggD d = b
  | [], r, h, j, o, n, b, hj => by simp [fieldsOf] at h; subst h; simp at hj
  | f :: fs, r, h, j, o, n, b, hj => by
    simp only [fieldsOf] at h
    split at h
    · rename_i i d r' hi hd hr
      simp only [Option.some.injEq] at h
      subst h
      cases j with
      | zero =>
        simp only [List.getElem?_cons_zero, Option.some.injEq, Prod.mk.injEq] at hj
        exact ⟨f, i, d, rfl, hi, hd, hj.1, hj.2.1, hj.2.2⟩
      | succ j => simpa using fieldsOf_get hr (by simpa using hj)
    · cases h

theorem fieldsOf_places {P : Program} : ∀ {fs : List Field} {r : List (Nat × Nat × Bool)}, fieldsOf P fs = some r → fs.mapM (fun f => (P.info? f.type).map fun i => (f.offset, i.size)) = some (r.map fun q => (q.1, q.2.1))
  | [], r, h => by simp [fieldsOf] at h; subst h; rfl
  | f :: fs, r, h => by
    simp only [fieldsOf] at h
    split at h
    · rename_i i d r' hi hd hr
      simp only [Option.some.injEq] at h
      subst h
      simp [List.mapM_cons, hi, fieldsOf_places hr]
    · cases h

theorem kd_struct {P : Program} {d : TypeDesc} {r : List (Nat × Nat × Bool)} (h : kdOf P d = .struct r) : ∃ fs, d = .struct fs ∧ fieldsOf P fs.toList = some r := by
  cases d <;> simp only [kdOf] at h <;> try (cases h; done)
  rename_i fs
  split at h
  · rename_i r' hr
    simp only [Kd.struct.injEq] at h
    subst h
    exact ⟨fs, rfl, hr⟩
  · cases h
theorem kd_str {P : Program} {d : TypeDesc} (h : kdOf P d = .str) : d = .string := by
  cases d <;> simp only [kdOf] at h <;> try (cases h; done)
  · rfl
  · split at h <;> cases h
theorem kd_bool {P : Program} {d : TypeDesc} (h : kdOf P d = .bool) : d = .bool := by
  cases d <;> simp only [kdOf] at h <;> try (cases h; done)
  · rfl
  · split at h <;> cases h
theorem kd_int {P : Program} {d : TypeDesc} {k : IntKind} (h : kdOf P d = .int k) : d = .int k := by
  cases d <;> simp only [kdOf] at h <;> try (cases h; done)
  · cases h; rfl
  · split at h <;> cases h

theorem fieldRow_ok {P : Program} {E : Tbl} (hE : E.Ok P) {t f o n : Nat} {b : Bool} (h : fieldRow E t f = some (o, n, b)) :
    ∃ fs fd i d, P.underlying t = some (.struct fs) ∧ fs[f]? = some fd ∧ P.info? fd.type = some i ∧ P.underlying fd.type = some d ∧ fd.offset = o ∧ i.size = n ∧ aggD d = b := by
  unfold fieldRow at h
  split at h
  · rename_i ti hti
    split at h
    · rename_i r hr
      obtain ⟨i0, d0, z0, T⟩ := TI.spec (hE.T t ti hti)
      obtain ⟨fs, hd, hf⟩ := kd_struct (T.kd.symm.trans hr)
      obtain ⟨fd, i, d, h1, h2, h3, h4, h5, h6⟩ := fieldsOf_get hf h
      exact ⟨fs, fd, i, d, by rw [T.und, hd], by simpa using h1, h2, h3, h4, h5, h6⟩
    · cases h
  · cases h

theorem run_isAgg {P : Program} {t : TypeId} {d : TypeDesc} (h : P.underlying t = some d) (W : World) : (isAgg t).run P W = .ok (aggD d) W := by
  unfold isAgg
  rw [Sem.run_bind, run_underlying h W]
  cases d <;> rfl
theorem run_sizeOf' {P : Program} {t : TypeId} {i : TypeInfo} (h : P.info? t = some i) (W : World) : (sizeOf t).run P W = .ok i.size W := by
  simp [sizeOf, typeInfo, h]

theorem run_part {P : Program} {t : TypeId} {i : TypeInfo} {d : TypeDesc} (hi : P.info? t = some i) (hd : P.underlying t = some d) {vs : List Value} {off : Nat} {u : Value}
    (h : if aggD d then (off + i.size ≤ vs.length ∧ u = .agg ((vs.drop off).take i.size).toArray) else vs[off]? = some u) (W : World) : (part t vs.toArray off).run P W = .ok u W := by
  unfold part
  rw [Sem.run_bind, run_isAgg hd W, Result.andThen_ok]
  cases ha : aggD d with
  | true =>
    rw [ha] at h
    simp only [if_true] at h ⊢
    rw [Sem.run_bind, run_sizeOf' hi W, Result.andThen_ok, h.2]
    simp only [Sem.run_pure, Result.ok.injEq, Value.agg.injEq, and_true]
    apply Array.ext'
    simp [List.extract_eq_take_drop]
  | false =>
    rw [ha] at h
    simp only [Bool.false_eq_true, if_false] at h ⊢
    have : vs.toArray[off]? = some u := by simpa using h
    rw [this]
    rfl

theorem run_loadVar {P : Program} {t : TypeId} {i : TypeInfo} {d : TypeDesc} (hi : P.info? t = some i) (hd : P.underlying t = some d) {vs : List Value} {off b : Nat} {ty : TypeId} {u : Value} {W : World}
    (hW : W.heap[b]? = some (.cells vs.toArray ty (0, 0)))
    (h : if aggD d then (off + i.size ≤ vs.length ∧ u = .agg ((vs.drop off).take i.size).toArray) else vs[off]? = some u) : (loadVar t ⟨b, off, none⟩).run P W = .ok u W := by
  cases ha : aggD d with
  | true =>
    rw [ha] at h
    simp only [if_true] at h
    rw [h.2]
    refine run_loadVar_mid W b off t _ d (fun j v hv => ?_) hd (by cases d <;> first | rfl | cases ha) (by simp [hi]; omega)
    rw [cell_of_row W b (off + j) _ ty (0, 0) hW]
    simp only [List.getElem?_take, List.getElem?_drop] at hv
    split at hv
    · simpa using hv
    · cases hv
  | false =>
    rw [ha] at h
    simp only [Bool.false_eq_true, if_false] at h
    unfold loadVar
    rw [Sem.run_bind, run_isAgg hd W, Result.andThen_ok, ha]
    simp only [Bool.false_eq_true, if_false, run_load]
    rw [cell_of_row W b off _ ty (0, 0) hW]
    have : vs.toArray[off]? = some u := by simpa using h
    rw [this]

theorem PR.ag_gives {ρ : List Pl} {P : Program} {S : World → Prop} {m : Sem Value} {cs : List CV} {vs : List Value} (h : IsL ρ cs vs) (b : Bool) (off size : Nat)
    (hm : ∀ u, (if b then (off + size ≤ vs.length ∧ u = .agg ((vs.drop off).take size).toArray) else vs[off]? = some u) → ∀ W, S W → m.run P W = .ok u W) : (ag b cs off size).gives ρ P S m := by
  have := ag_ok h b off size
  split at this
  · rename_i v hv
    obtain ⟨u, h1, h2⟩ := this
    rw [hv]
    exact ⟨u, h1, hm u h2⟩
  · rename_i hv
    rw [hv]; exact trivial
  · cases this

theorem bnd_ok {ρ : List Pl} {e : Operand → SV} {a : Operand → Value} (he : ∀ x, (e x).is ρ (a x)) {d : Int} {lo : Option Operand} {n : Int} (h : bnd d (lo.map e) = some n) :
    (lo = none ∧ n = d) ∨ (∃ x k, lo = some x ∧ a x = .int k n) := by
  cases lo with
  | none => simp [bnd] at h; exact Or.inl ⟨rfl, h.symm⟩
  | some x =>
    right
    simp only [Option.map_some] at h
    have hx := he x
    cases hv : e x with
    | c y =>
      rw [hv] at h hx
      cases y <;> simp [bnd] at h
      subst h
      have hx' : some (Value.int _ _) = some (a x) := hx
      exact ⟨x, _, rfl, (Option.some.inj hx').symm⟩
    | _ => rw [hv] at h; simp [bnd] at h
end Go.Proofs.YtophhppklaofaaaDoor.Vx
end

section
/- Maps with numbers as values: what looking up and setting come to. -/
namespace Go.Proofs.YtophhppklaofaaaDoor.Vx
open Go.RowKit
set_option linter.unusedVariables false
set_option linter.unusedSimpArgs false

theorem kd_map {P : Program} {d : TypeDesc} {k e : TypeId} (h : kdOf P d = .map k e) : d = .map k e := by
  cases d <;> simp only [kdOf] at h <;> try (cases h; done)
  · cases h; rfl
  · split at h <;> cases h
theorem kd_i64 {P : Program} {d : TypeDesc} (h : kdOf P d = .int .i64) : d = .int .i64 := by
  cases d <;> simp only [kdOf] at h <;> try (cases h; done)
  · cases h; rfl
  · split at h <;> cases h
open Classical in
/-- Where a key first stands. -/
noncomputable def firstN (v : Value) : List MapEntry → Option Nat
  | [] => none
  | e :: es => if e.key = v then some 0 else (firstN v es).map (· + 1)
def valAt (es : List MapEntry) (j : Nat) : Value := match es[j]? with
  | some e => e.val
  | none => undef
theorem firstN_at {v : Value} : ∀ {es : List MapEntry} {j : Nat}, firstN v es = some j → ∃ e, es[j]? = some e ∧ e.key = v
  | [], j, h => by cases h
  | e :: es, j, h => by
    unfold firstN at h
    split at h
    · rename_i hk
      cases h
      exact ⟨e, rfl, hk⟩
    · cases hf : firstN v es with
      | none => rw [hf] at h; cases h
      | some i =>
        rw [hf] at h
        cases h
        obtain ⟨e', h1, h2⟩ := firstN_at hf
        exact ⟨e', by simpa using h1, h2⟩
theorem shKs_eq : ∀ {gs : List Nat} {xs ys : List Value}, shKs gs xs → shKs gs ys → ∃ b, eqVs gs xs ys = some b ∧ (b = true ↔ xs = ys)
  | [], [], [], _, _ => ⟨true, rfl, by simp⟩
  | [], _ :: _, _, h, _ => by simp [shKs] at h
  | [], [], _ :: _, _, h => by simp [shKs] at h
  | g :: gs, [], _, h, _ => by simp [shKs] at h
  | g :: gs, _ :: _, [], _, h => by simp [shKs] at h
  | g :: gs, x :: xs, y :: ys, hx, hy => by
    unfold shKs at hx
    split at hx
    · rename_i h1 _; cases h1
    · rename_i gs' n vs e1 e2
      cases e1; cases e2
      unfold shKs at hy
      split at hy
      · rename_i h1 _; cases h1
      · rename_i gs' m ws e1 e2
        cases e1; cases e2
        obtain ⟨b, h1, h2⟩ := shKs_eq hx hy
        refine ⟨decide (n = m) && b, by simp [eqVs, eqV, h1], ?_⟩
        simp [h2]
      · rename_i e1 _; cases e1
      · rename_i e1 _; cases e1
      · exact hy.elim
    · rename_i gs' s vs e1 e2
      cases e1; cases e2
      unfold shKs at hy
      split at hy
      · rename_i h1 _; cases h1
      · rename_i e1 _; cases e1
      · rename_i gs' u ws e1 e2
        cases e1; cases e2
        obtain ⟨b, h1, h2⟩ := shKs_eq hx hy
        refine ⟨decide (s.toList = u.toList) && b, by simp [eqVs, eqV, h1], ?_⟩
        have : s.toList = u.toList ↔ s = u := ⟨fun h => by
          obtain ⟨⟨l⟩⟩ := s
          obtain ⟨⟨m⟩⟩ := u
          have h' : l = m := (toList_mk l).symm.trans (h.trans (toList_mk m))
          rw [h'], fun h => by rw [h]⟩
        simp [h2, this]
      · rename_i e1 _; cases e1
      · exact hy.elim
    · rename_i gs' b0 vs e1 e2
      cases e1; cases e2
      unfold shKs at hy
      split at hy
      · rename_i h1 _; cases h1
      · rename_i e1 _; cases e1
      · rename_i e1 _; cases e1
      · rename_i gs' c0 ws e1 e2
        cases e1; cases e2
        obtain ⟨b, h1, h2⟩ := shKs_eq hx hy
        refine ⟨(b0 == c0) && b, by simp [eqVs, eqV, h1], ?_⟩
        simp [h2]
      · exact hy.elim
    · exact hx.elim
/-- What is told of a map's keys. -/
structure MapOk (P : Program) (kt : TypeId) (gs : List Nat) : Prop where
  check : ∀ v, keySh gs v → ∀ em W, (Instr.checkKey em 10000 kt v).run P W = .ok () W
  find : ∀ v es, keySh gs v → (∀ e ∈ es, keySh gs e.key) → ∀ W, (Instr.findKey kt v es).run P W = .ok ((firstN v es).map fun j => (j, valAt es j)) W
theorem valAt_succ {e : MapEntry} {es : List MapEntry} {j : Nat} : valAt (e :: es) (j + 1) = valAt es j := by simp [valAt]
theorem findNow_first {n : Int} : ∀ {es : List MapEntry} {i : Nat}, (∀ e ∈ es, keySh [] e.key) → Instr.findNow (.int .i64) (.int .i64 n) es i = some ((firstN (.int .i64 n) es).map fun j => (i + j, valAt es j))
  | [], i, _ => rfl
  | e :: es, i, h => by
    obtain ⟨m, hm⟩ := h e (by simp)
    have ih := findNow_first (n := n) (es := es) (i := i + 1) fun x hx => h x (by simp [hx])
    unfold Instr.findNow firstN
    rw [hm]
    by_cases hk : n = m
    · subst hk
      simp [Instr.sameNow, valAt]
    · have hk' : ¬ m = n := fun x => hk x.symm
      simp only [Instr.sameNow, if_true, show (n == m) = false from by simpa using hk, ih]
      rw [if_neg (by simpa using hk')]
      cases firstN (.int .i64 n) es with
      | none => rfl
      | some j => simp [valAt_succ, Nat.add_assoc, Nat.add_comm 1 j]
theorem MapOk.int {P : Program} {kt : TypeId} (hd : P.underlying kt = some (.int .i64)) : MapOk P kt [] where
  check v hv em W := by
    obtain ⟨n, rfl⟩ := hv
    exact MapKept.run_checkKey hd (by simp [MapKept.IsKey]) em 9999
  find v es hv hes W := by
    obtain ⟨n, rfl⟩ := hv
    have := findNow_first (n := n) (es := es) (i := 0) hes
    rw [MapKept.run_findKey hd this]
    simp
theorem MapOk.flat {P : Program} {kt : TypeId} {g : Nat} {gs : List Nat} (hd : (match P.underlying kt with | some (.array _ _) | some (.struct _) => true | _ => false) = true) (F : FlatOk P kt (g :: gs)) : MapOk P kt (g :: gs) where
  check v hv em W := by
    obtain ⟨vs, rfl, h⟩ := hv
    exact F.check vs h em W
  find v es hv hes W := by
    rw [run_findKey_eq W hd]
    obtain ⟨vs, rfl, h⟩ := hv
    have key : ∀ (es : List MapEntry) (i : Nat), (∀ e ∈ es, keySh (g :: gs) e.key) → (Instr.findAsking kt (.agg vs.toArray) es i).run P W = .ok ((firstN (.agg vs.toArray) es).map fun j => (i + j, valAt es j)) W := by
      intro es
      induction es with
      | nil => intro i _; simp [Instr.findAsking, firstN]
      | cons e es ih =>
        intro i hes
        obtain ⟨ws, hw, h2⟩ := hes e (by simp)
        obtain ⟨b, hb, hi⟩ := shKs_eq h h2
        have hr := F.equal vs ws b hb W
        have hih := ih (i + 1) fun x hx => hes x (by simp [hx])
        unfold firstN
        rw [hw]
        cases b with
        | true =>
          have := hi.1 rfl
          subst this
          simp [Instr.findAsking, hw, hr, valAt]
        | false =>
          have hne : ¬ ws = vs := fun x => by have := hi.2 x.symm; cases this
          rw [if_neg (by simpa using hne)]
          simp only [Instr.findAsking, hw, Sem.run_bind, hr, Result.andThen_ok]
          cases hfn : firstN (.agg vs.toArray) es with
          | none => rw [hfn] at hih; simp [hih]
          | some j => rw [hfn] at hih; simp [hih, valAt_succ, Nat.add_assoc, Nat.add_comm 1 j]
    have := key es 0 hes
    simpa using this
theorem sameBits_sh {gs : List Nat} {v : Value} (h : keySh gs v) : Instr.sameBits 10000 v v = true := by
  cases gs with
  | nil => obtain ⟨n, rfl⟩ := h; simp [Instr.sameBits]
  | cons g gs =>
    obtain ⟨vs, rfl, h⟩ := h
    rw [show (10000 : Nat) = 9999 + 1 from rfl]
    simp only [Instr.sameBits, beq_self_eq_true, Bool.true_and]
    have key : ∀ (gs : List Nat) (vs : List Value), shKs gs vs → (vs.zip vs).all (fun (x, y) => Instr.sameBits 9999 x y) = true := by
      intro gs
      induction gs with
      | nil => intro vs h; cases vs with
        | nil => rfl
        | cons v vs => simp [shKs] at h
      | cons g gs ih =>
        intro vs h
        unfold shKs at h
        split at h
        · rename_i h1; cases h1
        · rename_i e1; cases e1
          simp [Instr.sameBits, ih _ h, MapKept.bytes_beq]
        · rename_i e1; cases e1
          simp [Instr.sameBits, ih _ h, MapKept.bytes_beq]
        · rename_i e1; cases e1
          simp [Instr.sameBits, ih _ h, MapKept.bytes_beq]
        · exact h.elim
    exact key _ _ h
def kvE (e : MapEntry) : Value × Value := (e.key, e.val)
def kvQ (q : Value × Int) : Value × Value := (q.1, Value.int .i64 q.2)
theorem get_first {v : Value} : ∀ {es : List MapEntry} {l : List (Value × Int)}, es.map kvE = l.map kvQ → (match firstN v es with | some j => valAt es j | none => .int .i64 0) = .int .i64 (mpGet v l)
  | [], [], _ => rfl
  | [], _ :: _, h => by simp at h
  | _ :: _, [], h => by simp at h
  | e :: es, q :: l, h => by
    simp only [List.map_cons, List.cons.injEq, kvE, kvQ, Prod.mk.injEq] at h
    have ih := get_first (v := v) h.2
    unfold firstN mpGet
    rw [h.1.1]
    by_cases hk : q.1 = v
    · rw [if_pos hk, if_pos hk]
      exact h.1.2
    · rw [if_neg hk, if_neg hk, ← ih]
      cases firstN v es with
      | none => rfl
      | some j => exact valAt_succ
theorem set_first {v : Value} {n : Int} {ck : Nat} : ∀ {es : List MapEntry} {l : List (Value × Int)}, es.map kvE = l.map kvQ →
    ((match firstN v es with | some j => es.modify j fun e => { e with key := v, val := .int .i64 n } | none => es ++ [{ key := v, val := .int .i64 n, born := ck }]) : List MapEntry).map kvE = (mpSet v n l).map kvQ
  | [], [], _ => rfl
  | [], _ :: _, h => by simp at h
  | _ :: _, [], h => by simp at h
  | e :: es, q :: l, h => by
    simp only [List.map_cons, List.cons.injEq, kvE, kvQ, Prod.mk.injEq] at h
    have ih := set_first (v := v) (n := n) (ck := ck) h.2
    unfold firstN mpSet
    rw [h.1.1]
    by_cases hk : q.1 = v
    · rw [if_pos hk, if_pos hk]
      simp [List.modify, kvE, kvQ]
      exact h.2
    · rw [if_neg hk, if_neg hk]
      rw [List.map_cons, ← ih]
      cases firstN v es with
      | none => simp [kvE, kvQ, h.1.1, h.1.2]
      | some j => simp [List.modify, kvE, kvQ, h.1.1, h.1.2]
theorem mpSet_sh {gs : List Nat} {v : Value} {n : Int} (hv : keySh gs v) : ∀ {l : List (Value × Int)}, (∀ q ∈ l, keySh gs q.1) → ∀ q ∈ mpSet v n l, keySh gs q.1
  | [], _, q, hq => by
    simp [mpSet] at hq
    subst hq
    exact hv
  | a :: l, h, q, hq => by
    unfold mpSet at hq
    split at hq
    · rcases List.mem_cons.1 hq with rfl | hq
      · exact hv
      · exact h q (by simp [hq])
    · rcases List.mem_cons.1 hq with rfl | hq
      · exact h _ (by simp)
      · exact mpSet_sh hv (fun x hx => h x (by simp [hx])) q hq
theorem cellsK_ok {ρ : List Pl} : ∀ {gs : List Nat} {cs : List CV} {vs us : List Value}, cellsK gs cs = some vs → IsL ρ cs us → us = vs ∧ shKs gs vs
  | [], [], vs, us, h, hu => by
    cases h
    cases us with
    | nil => exact ⟨rfl, trivial⟩
    | cons u us => simp [IsL] at hu
  | [], c :: cs, vs, us, h, hu => by simp [cellsK] at h
  | g :: gs, cs, vs, us, h, hu => by
    unfold cellsK at h
    split at h
    all_goals first
      | (cases h; done)
      | (rename_i h1 _; cases h1; done)
      | (rename_i h1; cases h1; done)
      | (rename_i e1
         cases e1
         split at h
         · rename_i ws hws
           cases h
           cases us with
           | nil => simp [IsL] at hu
           | cons u us =>
             simp only [IsL, List.map_cons, List.cons.injEq] at hu
             obtain ⟨h1, h2⟩ := cellsK_ok hws hu.2
             have h3 := hu.1
             simp only [CV.den, Option.some.injEq] at h3
             subst h1
             subst h3
             exact ⟨rfl, h2⟩
         · cases h)
theorem keyC_ok {ρ : List Pl} {gs : List Nat} {x : SV} {v u : Value} (h : keyC gs x = some v) (hx : x.is ρ u) : u = v ∧ keySh gs v := by
  unfold keyC at h
  split at h
  · cases h
    exact ⟨(Option.some.inj hx).symm, _, rfl⟩
  · split at h
    · rename_i ws hws
      cases h
      obtain ⟨us, h1, h2⟩ := hx
      obtain ⟨h3, h4⟩ := cellsK_ok hws h1
      subst h3
      exact ⟨h2, _, rfl, h4⟩
    · cases h
  · cases h
theorem mapTy_ok {P : Program} {E : Tbl} (hE : E.Ok P) {t : TypeId} {gs : List Nat} (h : mapTy E t = some gs) : ∃ kt et, P.underlying t = some (.map kt et) ∧ (∀ W, (zeroValue et).run P W = .ok (.int .i64 0) W) ∧ MapOk P kt gs := by
  unfold mapTy at h
  split at h
  · rename_i ti hti
    split at h
    · rename_i kt et hkd
      obtain ⟨i0, d0, z0, T0⟩ := TI.spec (hE.T _ ti hti)
      have hd0 := kd_map (T0.kd.symm.trans hkd)
      split at h
      · rename_i ei ki hei hki
        obtain ⟨i1, d1, z1, T1⟩ := TI.spec (hE.T _ ei hei)
        obtain ⟨i2, d2, z2, T2⟩ := TI.spec (hE.T _ ki hki)
        have hz : ∀ (hk : ei.kd = .int .i64) (hz : ei.zero = [.int .i64 0]) W, (zeroValue et).run P W = .ok (.int .i64 0) W := fun hk hz W => by
          have hz1 : z1 = .int .i64 0 := by
            have hd1 := kd_i64 (T1.kd.symm.trans hk)
            have h1 := T1.zone (by rw [hd1]; rfl)
            have h2 := T1.zs
            rw [hz] at h2
            cases z1 with
            | agg cs => cases h1
            | tuple cs => cases h1
            | int k n => simp [Value.cells, CV.ofV] at h2; obtain ⟨rfl, rfl⟩ := h2; rfl
            | bool b => cases b <;> simp [Value.cells, CV.ofV] at h2
            | _ => simp [Value.cells, CV.ofV] at h2
          simp [zeroValue, typeInfo, T1.info, T1.zero, hz1]
        split at h
        · rename_i he1 he2 hk1
          cases h
          exact ⟨kt, et, by rw [T0.und, hd0], hz he1 he2, MapOk.int (by rw [T2.und, kd_i64 (T2.kd.symm.trans hk1)])⟩
        · rename_i fs he1 he2 hk1
          split at h
          · rename_i g gs' hF
            cases h
            refine ⟨kt, et, by rw [T0.und, hd0], hz he1 he2, MapOk.flat ?_ (hE.F _ _ hF)⟩
            rw [T2.und]
            have hk2 := T2.kd
            rw [hk1] at hk2
            cases d2 <;> simp [kdOf] at hk2
            rfl
          · cases h
        · cases h
      · cases h
    · cases h
  · cases h
theorem mp_get {P : Program} {t kt et : TypeId} {gs : List Nat} (ht : P.underlying t = some (.map kt et)) (hz : ∀ W, (zeroValue et).run P W = .ok (.int .i64 0) W) (M : MapOk P kt gs) {W : World} {b : Nat} {l : List (Value × Int)} (hm : MapAt W b gs l) {v : Value} (hv : keySh gs v) :
    (Instr.lookup t (.map (some b)) v false).run P W = .ok (.int .i64 (mpGet v l)) W := by
  obtain ⟨es, ck, h1, h2, h3⟩ := hm
  have hsh : ∀ e ∈ es.toList, keySh gs e.key := fun e he => by
    have : (e.key, e.val) ∈ l.map (fun q => (q.1, Value.int .i64 q.2)) := by rw [← h2]; exact List.mem_map.2 ⟨e, he, rfl⟩
    obtain ⟨q, hq, hqe⟩ := List.mem_map.1 this
    simp only [Prod.mk.injEq] at hqe
    rw [← hqe.1]
    exact h3 q hq
  have hf := M.find v es.toList hv hsh W
  have hg := get_first (v := v) (es := es.toList) (l := l) h2
  simp only [Instr.lookup, Sem.run_bind, run_underlying ht, Result.andThen_ok, MapKept.run_getObj_map h1, Sem.run_pure, M.check v hv, hf]
  cases hfn : firstN v es.toList with
  | none =>
    rw [hfn] at hg
    simp [hz, hg]
  | some j =>
    rw [hfn] at hg
    simp [hg]
theorem mp_set {P : Program} {t kt et : TypeId} {gs : List Nat} (ht : P.underlying t = some (.map kt et)) (M : MapOk P kt gs) {W : World} {b : Nat} {l : List (Value × Int)} (hm : MapAt W b gs l) {v : Value} (hv : keySh gs v) (n : Int) :
    ∃ es' ck', (Instr.mapUpdate t (.map (some b)) v (.int .i64 n)).run P W = .ok () { W with heap := W.heap.setIfInBounds b (.map es' ck') } ∧ MapAt { W with heap := W.heap.setIfInBounds b (.map es' ck') } b gs (mpSet v n l) ∧ b < W.heap.size := by
  obtain ⟨es, ck, h1, h2, h3⟩ := hm
  have hsh : ∀ e ∈ es.toList, keySh gs e.key := fun e he => by
    have : (e.key, e.val) ∈ l.map (fun q => (q.1, Value.int .i64 q.2)) := by rw [← h2]; exact List.mem_map.2 ⟨e, he, rfl⟩
    obtain ⟨q, hq, hqe⟩ := List.mem_map.1 this
    simp only [Prod.mk.injEq] at hqe
    rw [← hqe.1]
    exact h3 q hq
  have hf := M.find v es.toList hv hsh W
  have hg := set_first (v := v) (n := n) (ck := ck) (es := es.toList) (l := l) h2
  have hb : b < W.heap.size := (Array.getElem?_eq_some_iff.1 h1).1
  cases hfn : firstN v es.toList with
  | none =>
    rw [hfn] at hg hf
    refine ⟨es.push { key := v, val := .int .i64 n, born := ck }, ck + 1, ?_, ⟨es.push { key := v, val := .int .i64 n, born := ck }, ck + 1, by simp [hb], ?_, mpSet_sh hv h3⟩, hb⟩
    · simp only [Instr.mapUpdate, Sem.run_bind, run_underlying ht, Result.andThen_ok, MapKept.run_getObj_map h1, M.check v hv, hf, Option.map_none, MapKept.run_setObj_map _ h1]
    · rw [Array.toList_push]
      exact hg
  | some j =>
    obtain ⟨e0, he1, he2⟩ := firstN_at hfn
    rw [hfn] at hg hf
    have he1' : es[j]? = some e0 := by simpa using he1
    refine ⟨es.modify j fun e => { e with key := v, val := .int .i64 n }, ck, ?_, ⟨es.modify j fun e => { e with key := v, val := .int .i64 n }, ck, by simp [hb], ?_, mpSet_sh hv h3⟩, hb⟩
    · simp only [Instr.mapUpdate, Sem.run_bind, run_underlying ht, Result.andThen_ok, MapKept.run_getObj_map h1, M.check v hv, hf, Option.map_some, he1', Option.getD_some, he2, Instr.keyThatStays, sameBits_sh hv, if_true, Sem.run_pure, MapKept.run_setObj_map _ h1]
    · rw [Array.toList_modify]
      exact hg

/-! ### Maps with records as values -/
theorem ofV_int {v : Value} {k : IntKind} {n : Int} (h : CV.ofV v = .int k n) : v = .int k n := by
  cases v with
  | bool b => cases b <;> cases h
  | int k' n' => cases h; rfl
  | _ => cases h
theorem ofV_nil {v : Value} (h : CV.ofV v = .val (.pointer none)) : v = .pointer none := by
  cases v with
  | bool b => cases b <;> cases h
  | int k' n' => cases h
  | string s => cases h
  | _ => first | (cases h; rfl) | cases h
theorem kindsQ_ok : ∀ {vs : List Value} {ks : List IntKind} (i : Nat), kindsQ (vs.map CV.ofV) = some ks → vs = numsV ks (fun _ => 0) i ++ [.pointer none]
  | [], ks, i, h => by simp [kindsQ] at h
  | v :: vs, ks, i, h => by
    rw [List.map_cons] at h
    unfold kindsQ at h
    split at h
    · rename_i heq
      cases h
      obtain ⟨h1, h2⟩ := List.cons.inj heq
      have h3 : vs = [] := by simpa using h2
      rw [ofV_nil h1, h3]
      rfl
    · rename_i k r heq
      obtain ⟨h1, h2⟩ := List.cons.inj heq
      split at h
      · rename_i ks' hk
        cases h
        rw [← h2] at hk
        rw [ofV_int h1, numsV, List.cons_append, ← kindsQ_ok (i + 1) hk]
      · cases h
    · cases h
theorem mapTyQ_ok {P : Program} {E : Tbl} (hE : E.Ok P) {t : TypeId} {mt : MTy} (h : mapTyQ E t = some mt) : ∃ kt et, P.underlying t = some (.map kt et) ∧ (∀ W, (zeroValue et).run P W = .ok (.agg (numsV mt.ks (fun _ => 0) 0 ++ [Value.pointer none]).toArray) W) ∧ MapOk P kt mt.gs := by
  unfold mapTyQ at h
  split at h
  · split at h
    · rename_i ti hti
      split at h
      · rename_i kt et hkd
        obtain ⟨i0, d0, z0, T0⟩ := TI.spec (hE.T _ ti hti)
        have hd0 := kd_map (T0.kd.symm.trans hkd)
        split at h
        · rename_i ei ki hei hki
          obtain ⟨i1, d1, z1, T1⟩ := TI.spec (hE.T _ ei hei)
          obtain ⟨i2, d2, z2, T2⟩ := TI.spec (hE.T _ ki hki)
          split at h
          · rename_i fs g gs k ks hk1 hF hz
            cases h
            have hz1 := hz
            rw [T1.zs] at hz1
            have hzl := kindsQ_ok 0 hz1
            have hza : z1 = .agg (numsV (k :: ks) (fun _ => 0) 0 ++ [Value.pointer none]).toArray := by
              cases z1 with
              | agg cs =>
                have : cs.toList = numsV (k :: ks) (fun _ => 0) 0 ++ [Value.pointer none] := hzl
                rw [← this]
              | _ =>
                have h3 := congrArg List.length hzl
                simp [Value.cells, numsV] at h3
            refine ⟨kt, et, by rw [T0.und, hd0], fun W => by simp [zeroValue, typeInfo, T1.info, T1.zero, hza], MapOk.flat ?_ (hE.F _ _ hF)⟩
            rw [T2.und]
            have hk2 := T2.kd
            rw [hk1] at hk2
            cases d2 <;> simp [kdOf] at hk2
            rfl
          · cases h
        · cases h
      · cases h
    · cases h
  · cases h
theorem firstQ {v : Value} : ∀ {es : List MapEntry} {l : List (Value × MRec)}, es.map (fun e => e.key) = l.map (fun q => q.1) →
    (∀ j, firstN v es = some j → mqHas v l = true ∧ ∀ W D t, recsShow W D t es l → (mqRec v l).shows W D t (valAt es j)) ∧ (firstN v es = none → mqHas v l = false)
  | [], [], _ => ⟨fun j h => (by cases h), fun _ => rfl⟩
  | [], _ :: _, h => by simp at h
  | _ :: _, [], h => by simp at h
  | e :: es, q :: l, h => by
    simp only [List.map_cons, List.cons.injEq] at h
    have ih := firstQ (v := v) h.2
    unfold firstN mqHas mqRec
    rw [h.1]
    by_cases hk : q.1 = v
    · rw [if_pos hk, if_pos hk, if_pos hk]
      exact ⟨fun j hj => (by cases hj; exact ⟨rfl, fun W D t hr => hr.1⟩), fun hj => (by cases hj)⟩
    · rw [if_neg hk, if_neg hk, if_neg hk]
      cases hf : firstN v es with
      | none => exact ⟨fun j hj => (by cases hj), fun _ => ih.2 hf⟩
      | some i =>
        obtain ⟨h1, h2⟩ := ih.1 i hf
        exact ⟨fun j hj => (by cases hj; exact ⟨h1, fun W D t hr => (by rw [valAt_succ]; exact h2 W D t hr.2)⟩), fun hj => (by cases hj)⟩
theorem setQ {v rv : Value} {m : MRec} {ck : Nat} : ∀ {es : List MapEntry} {l : List (Value × MRec)}, es.map (fun e => e.key) = l.map (fun q => q.1) →
    ((match firstN v es with | some j => es.modify j fun e => { e with key := v, val := rv } | none => es ++ [{ key := v, val := rv, born := ck }]) : List MapEntry).map (fun e => e.key) = (mqSet v m l).map (fun q => q.1) ∧
    ∀ W D t, recsShow W D t es l → m.shows W D t rv → recsShow W D t (match firstN v es with | some j => es.modify j fun e => { e with key := v, val := rv } | none => es ++ [{ key := v, val := rv, born := ck }]) (mqSet v m l)
  | [], [], _ => ⟨rfl, fun W D t _ h => ⟨h, trivial⟩⟩
  | [], _ :: _, h => by simp at h
  | _ :: _, [], h => by simp at h
  | e :: es, q :: l, h => by
    simp only [List.map_cons, List.cons.injEq] at h
    have ih := setQ (v := v) (rv := rv) (m := m) (ck := ck) h.2
    unfold firstN mqSet
    rw [h.1]
    by_cases hk : q.1 = v
    · rw [if_pos hk, if_pos hk]
      refine ⟨by simp [List.modify, h.2], fun W D t hr hm => ?_⟩
      show recsShow W D t ((e :: es).modify 0 _) _
      simp only [List.modify, List.modifyTailIdx]
      exact ⟨hm, hr.2⟩
    · rw [if_neg hk, if_neg hk]
      cases hf : firstN v es with
      | none =>
        rw [hf] at ih
        refine ⟨?_, fun W D t hr hm => ⟨hr.1, ih.2 W D t hr.2 hm⟩⟩
        show (e :: (es ++ _)).map _ = _
        rw [List.map_cons, List.map_cons, h.1]
        exact congrArg _ ih.1
      | some j =>
        rw [hf] at ih
        refine ⟨?_, fun W D t hr hm => ⟨hr.1, ih.2 W D t hr.2 hm⟩⟩
        show (e :: es.modify j _).map _ = _
        rw [List.map_cons, List.map_cons, h.1]
        exact congrArg _ ih.1
theorem mqSet_sh {gs : List Nat} {v : Value} {m : MRec} (hv : keySh gs v) : ∀ {l : List (Value × MRec)}, (∀ q ∈ l, keySh gs q.1) → ∀ q ∈ mqSet v m l, keySh gs q.1
  | [], _, q, hq => by
    simp [mqSet] at hq
    subst hq
    exact hv
  | a :: l, h, q, hq => by
    unfold mqSet at hq
    split at hq
    · rcases List.mem_cons.1 hq with rfl | hq
      · exact hv
      · exact h q (by simp [hq])
    · rcases List.mem_cons.1 hq with rfl | hq
      · exact h _ (by simp)
      · exact mqSet_sh hv (fun x hx => h x (by simp [hx])) q hq
theorem mq_keys {gs : List Nat} {es : List MapEntry} {l : List (Value × MRec)} (h2 : es.map (fun e => e.key) = l.map (fun q => q.1)) (h3 : ∀ q ∈ l, keySh gs q.1) : ∀ e ∈ es, keySh gs e.key := fun e he => by
  have : e.key ∈ l.map (fun q => q.1) := by rw [← h2]; exact List.mem_map.2 ⟨e, he, rfl⟩
  obtain ⟨q, hq, hqe⟩ := List.mem_map.1 this
  rw [← hqe]
  exact h3 q hq
theorem mq_get {P : Program} {t kt et : TypeId} {gs : List Nat} {zv : Value} (ht : P.underlying t = some (.map kt et)) (hz : ∀ W, (zeroValue et).run P W = .ok zv W) (M : MapOk P kt gs) {W : World} {b ck : Nat} {es : Array MapEntry} {l : List (Value × MRec)} (h1 : W.heap[b]? = some (.map es ck)) (h2 : es.toList.map (fun e => e.key) = l.map (fun q => q.1)) (h3 : ∀ q ∈ l, keySh gs q.1) {v : Value} (hv : keySh gs v) (cm : Bool) :
    (mqHas v l = true → ∃ rv, (Instr.lookup t (.map (some b)) v cm).run P W = .ok (if cm = true then .tuple #[rv, .bool true] else rv) W ∧ ∀ W' D mt, recsShow W' D mt es.toList l → (mqRec v l).shows W' D mt rv) ∧
    (mqHas v l = false → (Instr.lookup t (.map (some b)) v cm).run P W = .ok (if cm = true then .tuple #[zv, .bool false] else zv) W) := by
  have hf := M.find v es.toList hv (mq_keys h2 h3) W
  obtain ⟨g1, g2⟩ := firstQ (v := v) h2
  have hrun : (Instr.lookup t (.map (some b)) v cm).run P W = (match firstN v es.toList with | some j => .ok (if cm = true then .tuple #[valAt es.toList j, .bool true] else valAt es.toList j) W | none => .ok (if cm = true then .tuple #[zv, .bool false] else zv) W) := by
    simp only [Instr.lookup, Sem.run_bind, run_underlying ht, Result.andThen_ok, MapKept.run_getObj_map h1, Sem.run_pure, M.check v hv, hf]
    cases hfn : firstN v es.toList with
    | none => simp [hz]
    | some j => simp
  rw [hrun]
  cases hfn : firstN v es.toList with
  | none =>
    have := g2 hfn
    exact ⟨fun h => (by rw [this] at h; cases h), fun _ => rfl⟩
  | some j =>
    obtain ⟨k1, k2⟩ := g1 j hfn
    exact ⟨fun _ => ⟨_, rfl, k2⟩, fun h => (by rw [k1] at h; cases h)⟩
theorem mq_set {P : Program} {t kt et : TypeId} {gs : List Nat} (ht : P.underlying t = some (.map kt et)) (M : MapOk P kt gs) {W : World} {b ck : Nat} {es : Array MapEntry} {l : List (Value × MRec)} (h1 : W.heap[b]? = some (.map es ck)) (h2 : es.toList.map (fun e => e.key) = l.map (fun q => q.1)) (h3 : ∀ q ∈ l, keySh gs q.1) {v : Value} (hv : keySh gs v) (rv : Value) (m : MRec) :
    ∃ es' ck', (Instr.mapUpdate t (.map (some b)) v rv).run P W = .ok () { W with heap := W.heap.setIfInBounds b (.map es' ck') } ∧ es'.toList.map (fun e => e.key) = (mqSet v m l).map (fun q => q.1) ∧ b < W.heap.size ∧
    ∀ W' D mt, recsShow W' D mt es.toList l → m.shows W' D mt rv → recsShow W' D mt es'.toList (mqSet v m l) := by
  have hf := M.find v es.toList hv (mq_keys h2 h3) W
  have hb : b < W.heap.size := (Array.getElem?_eq_some_iff.1 h1).1
  obtain ⟨g1, g2⟩ := setQ (v := v) (rv := rv) (m := m) (ck := ck) h2
  cases hfn : firstN v es.toList with
  | none =>
    rw [hfn] at g1 g2 hf
    refine ⟨es.push { key := v, val := rv, born := ck }, ck + 1, ?_, ?_, hb, ?_⟩
    · simp only [Instr.mapUpdate, Sem.run_bind, run_underlying ht, Result.andThen_ok, MapKept.run_getObj_map h1, M.check v hv, hf, Option.map_none, MapKept.run_setObj_map _ h1]
    · rw [Array.toList_push]; exact g1
    · rw [Array.toList_push]; exact g2
  | some j =>
    obtain ⟨e0, he1, he2⟩ := firstN_at hfn
    rw [hfn] at g1 g2 hf
    have he1' : es[j]? = some e0 := by simpa using he1
    refine ⟨es.modify j fun e => { e with key := v, val := rv }, ck, ?_, ?_, hb, ?_⟩
    · simp only [Instr.mapUpdate, Sem.run_bind, run_underlying ht, Result.andThen_ok, MapKept.run_getObj_map h1, M.check v hv, hf, Option.map_some, he1', Option.getD_some, he2, Instr.keyThatStays, sameBits_sh hv, if_true, Sem.run_pure, MapKept.run_setObj_map _ h1]
    · rw [Array.toList_modify]; exact g1
    · rw [Array.toList_modify]; exact g2
theorem recC_ok {ρ : List Pl} : ∀ {ks : List IntKind} {cs : List CV} {ns : List Int} {a : Nat} {vs : List Value} (pre : List Int), recC ks cs = some (ns, a) → IsL ρ cs vs → ∃ p, ρ[a]? = some p ∧ vs = numsV ks (numL (pre ++ ns)) pre.length ++ [.pointer (some ⟨p.b, 0, none⟩)]
  | [], cs, ns, a, vs, pre, h, hv => by
    unfold recC at h
    split at h
    all_goals first
      | (cases h; done)
      | (rename_i h1 _; cases h1; done)
      | (rename_i h1; cases h1; done)
      | (cases h
         cases vs with
         | nil => simp [IsL] at hv
         | cons v vs =>
           simp only [IsL, List.map_cons, List.map_nil, List.cons.injEq] at hv
           have h2 : vs = [] := by simpa using hv.2.symm
           subst h2
           obtain ⟨h3, _⟩ := hv
           simp only [CV.den] at h3
           split at h3
           · rename_i p hk
             exact ⟨p, hk, by rw [← Option.some.inj h3]; rfl⟩
           · cases h3)
  | kd :: ks, cs, ns, a, vs, pre, h, hv => by
    unfold recC at h
    split at h
    all_goals first
      | (cases h; done)
      | (rename_i h1 _; cases h1; done)
      | (rename_i h1; cases h1; done)
      | (rename_i e1
         cases e1
         split at h
         · rename_i hk
           have hk := eq_of_beq hk
           subst hk
           split at h
           · rename_i ns' k' hr
             cases h
             cases vs with
             | nil => simp [IsL] at hv
             | cons v vs =>
               simp only [IsL, List.map_cons, List.cons.injEq] at hv
               obtain ⟨p, h1, h2⟩ := recC_ok (pre ++ [_]) hr hv.2
               refine ⟨p, h1, ?_⟩
               rw [List.append_assoc, List.length_append] at h2
               have e3 : ∀ (x : Int) (r : List Int), numL (pre ++ x :: r) pre.length = x := fun x r => by simp [numL, List.getD]
               rw [numsV, e3, h2]
               have hv1 := Option.some.inj hv.1
               rw [← hv1]
               rfl
           · cases h
         · cases h)
theorem lookQ_spec {E : Tbl} {h : List Ent} {t : Nat} {m k : SV} {mt : MTy} {zk : List IntKind} {kv : Value} {l : List (Value × MRec)} (hq : lookQ E h t m k = some (mt, zk, kv, l)) : ∃ j mt', m = .c (.row j) ∧ h[j]? = some (.mq mt l) ∧ mapTyQ E t = some mt' ∧ mt'.gs = mt.gs ∧ keyC mt.gs k = some kv ∧ zk = mt'.ks := by
  unfold lookQ at hq
  split at hq
  · rename_i j
    split at hq
    · rename_i mt0 l0 hj
      split at hq
      · rename_i mt' hmt
        split at hq
        · rename_i hg hk
          cases hq
          exact ⟨j, mt', rfl, hj, hmt, eq_of_beq hg, hk, rfl⟩
        · cases hq
      · cases hq
    · cases hq
  · cases hq
end Go.Proofs.YtophhppklaofaaaDoor.Vx
end
