/- The walker's operations that only compute or read. -/
import Derived.Test.YtcgoaicifjndpaaVx
import Derived.IntWalk
import Derived.Laws.StructEq
import Derived.Laws.Tables
section
namespace Go.Proofs.Ytcgoaicifjndpaa.Vx
open Go.RowKit
set_option linter.unusedVariables false
set_option linter.unusedSimpArgs false

/-- Arithmetic, kept closed while the walker runs. -/
structure Arith where
  fit : IntKind → Int → Prop
  add : Int → Int → Int
  sub : Int → Int → Int
  mul : Int → Int → Int
  wrap : IntKind → Int → Int
  lt : Int → Int → Bool
  le : Int → Int → Bool
  eq : Int → Int → Bool
  not : Bool → Bool
  and : Bool → Bool → Bool
  eqB : Bool → Bool → Bool
  nz : Int → Prop
  nneg : Int → Prop
  quo : Int → Int → Int
  rem : Int → Int → Int
  bits : BinOp → IntKind → Int → Int → Int
  shl : IntKind → Int → Int → Int
  shr : IntKind → Int → Int → Int
  eqS : List UInt8 → List UInt8 → Bool
  ltS : List UInt8 → List UInt8 → Bool
  app : List UInt8 → List UInt8 → List UInt8
  fitS : List UInt8 → List UInt8 → Prop
  len : List UInt8 → Int
  inS : Int → List UInt8 → Prop
  at_ : List UInt8 → Int → Int
  inSl : Int → Int → List UInt8 → Prop
  sub_ : List UInt8 → Int → Int → List UInt8
  inN : Int → Nat → Prop
  natOf : Int → Nat
  natI : Nat → Int
  fitL : List UInt8 → List UInt8 → Prop
  byte : Int → UInt8
  isByte : Int → Prop
  ltN : Nat → Nat → Prop
  fitR : Nat → Nat → Prop
  fitV : Nat → Nat → Nat → Prop
  lenG : Nat → (Nat → List CV) → Nat → Prop
  sel : Nat → List Int → Int
  upd : Nat → Nat → Int → Int → Int
  byteAt : List UInt8 → Nat → Int
  leL : Nat → List UInt8 → Prop
  addN : Nat → Nat → Nat
  subI : Int → Int → Nat
  inSlN : Int → Int → Nat → Prop
  cutOk : Int → Nat → Prop
  maxI : Int → Int → Int
  minI : Int → Int → Int
  bytesOk : List Int → Prop
  setB : List UInt8 → Nat → Int → List UInt8
  mkOk : Int → Int → Nat → Prop

def fitStd : IntKind → Int → Prop
  | .i64, x => -9223372036854775808 ≤ x ∧ x ≤ 9223372036854775807
  | k, x => k.wrap x = x

theorem fitStd_wrap {k : IntKind} {x : Int} (h : fitStd k x) : k.wrap x = x := by
  cases k <;> simp only [fitStd] at h <;> try exact h
  exact IntWalk.i64_in _ h

def bitsStd (op : BinOp) (k : IntKind) (x y : Int) : Int :=
  let a := BitVec.ofInt k.bits x
  let b := BitVec.ofInt k.bits y
  match op with
  | .and => k.wrap (a &&& b).toNat
  | .or => k.wrap (a ||| b).toNat
  | .xor => k.wrap (a ^^^ b).toNat
  | .andNot => k.wrap (a &&& ~~~b).toNat
  | _ => 0

def Arith.std : Arith where
  fit := fitStd
  add a b := a + b
  sub a b := a - b
  mul a b := a * b
  wrap := IntKind.wrap
  lt a b := decide (a < b)
  le a b := decide (a ≤ b)
  eq a b := decide (a = b)
  not b := !b
  and a b := a && b
  eqB a b := a == b
  nz a := a ≠ 0
  nneg a := 0 ≤ a
  quo a b := a.tdiv b
  rem a b := a.tmod b
  bits := bitsStd
  shl k a b := k.wrap (a * 2 ^ (min b.toNat k.bits))
  shr k a b := a.fdiv (2 ^ (min b.toNat k.bits))
  eqS l m := decide (l = m)
  ltS l m := Op.bytesLess l m
  app l m := l ++ m
  fitS l m := (l.length : Int) + m.length ≤ 9223372036854775807
  len l := (l.length : Int)
  inS i l := 0 ≤ i ∧ i < (l.length : Int)
  at_ l i := ((l.getD i.toNat 0).toNat : Int)
  inSl lo hi l := 0 ≤ lo ∧ lo ≤ hi ∧ hi ≤ (l.length : Int)
  sub_ l lo hi := (l.take hi.toNat).drop lo.toNat
  inN i n := 0 ≤ i ∧ i < (n : Int)
  natOf i := i.toNat
  natI n := (n : Int)
  fitL l m := l.length + m.length ≤ 140737488355328
  byte n := UInt8.ofNat n.toNat
  isByte n := 0 ≤ n ∧ n < 256
  ltN i n := i < n
  fitR n b := n + 1 ≤ maxLen ∧ (n + 1) * b ≤ 140737488355328
  fitV n m b := n + m ≤ maxLen ∧ (n + m) * b ≤ 140737488355328
  lenG m g sz := ∀ i, i < m → (g i).length = sz
  sel i es := es.getD i 0
  upd i j v e := if i = j then v else e
  byteAt l i := byteN l i
  leL n l := n ≤ l.length
  addN a b := a + b
  subI a b := (a - b).toNat
  inSlN lo hi n := 0 ≤ lo ∧ lo ≤ hi ∧ hi ≤ (n : Int)
  cutOk a n := a = 0 ∨ a < (n : Int)
  maxI a b := max a b
  minI a b := min a b
  bytesOk l := ∀ n ∈ l, 0 ≤ n ∧ n < 256
  setB l i n := l.set i (UInt8.ofNat n.toNat)
  mkOk l c b := 0 ≤ l ∧ l = c ∧ l ≤ 16777216 ∧ l * (b : Int) ≤ 140737488355328

inductive Kd where
  | bool | int (k : IntKind) | str | slice (e : TypeId) | array (n : Nat) (e : TypeId) | struct (fs : List (Nat × Nat × Bool)) | ptr (e : TypeId) | other | map (k e : TypeId)

structure TI where
  size : Nat
  agg : Bool
  zero : List CV
  kd : Kd
  bytes : Nat

def CV.ofV : Value → CV
  | .bool true => .tt
  | .bool false => .ff
  | .int k n => .int k n
  | .string s => .str s.data.toList
  | v => .val v

theorem CV.den_ofV {ρ : List Pl} {v : Value} (h : one v = true) : (CV.ofV v).den ρ = some v := by
  cases v with
  | bool b => cases b <;> rfl
  | agg cs => cases h
  | tuple cs => cases h
  | _ => first | rfl | (simp [CV.ofV, CV.den, one])

def aggD : TypeDesc → Bool
  | .struct _ | .array _ _ => true
  | _ => false

def fieldsOf (P : Program) : List Field → Option (List (Nat × Nat × Bool))
  | [] => some []
  | f :: fs =>
    match P.info? f.type, P.underlying f.type, fieldsOf P fs with
    | some i, some d, some r => some ((f.offset, i.size, aggD d) :: r)
    | _, _, _ => none

def kdOf (P : Program) : TypeDesc → Kd
  | .bool => .bool
  | .int k => .int k
  | .string => .str
  | .slice e => .slice e
  | .array n e => .array n e
  | .pointer e => .ptr e
  | .map k e => .map k e
  | .struct fs => match fieldsOf P fs.toList with
    | some r => .struct r
    | none => .other
  | _ => .other

def TI.of (P : Program) (t : TypeId) : Option TI :=
  match P.info? t, P.underlying t with
  | some i, some d =>
    match i.zero with
    | some z => if (z.cells.toList.all one && z.cells.size == i.size) && (aggD d || one z) then some ⟨i.size, aggD d, z.cells.toList.map CV.ofV, kdOf P d, i.bytes⟩ else none
    | none => none
  | _, _ => none

def look : List (Nat × TI) → Nat → Option TI
  | [], _ => none
  | (u, i) :: r, t => if u == t then some i else look r t

def TblOk (P : Program) (T : List (Nat × TI)) : Prop := ∀ t i, look T t = some i → TI.of P t = some i

theorem TblOk.nil (P : Program) : TblOk P [] := fun t i h => by cases h
theorem TblOk.cons {P : Program} {t : Nat} {i : TI} {T : List (Nat × TI)} (h : TI.of P t = some i) (k : TblOk P T) : TblOk P ((t, i) :: T) := fun u j hu => by
  unfold look at hu
  by_cases e : t = u
  · subst e; simp at hu; rw [h, hu]
  · simp [e] at hu; exact k u j hu

structure TIs (P : Program) (t : TypeId) (ti : TI) (i : TypeInfo) (d : TypeDesc) (z : Value) : Prop where
  info : P.info? t = some i
  und : P.underlying t = some d
  zero : i.zero = some z
  size : i.size = ti.size
  agg : ti.agg = aggD d
  zs : ti.zero = z.cells.toList.map CV.ofV
  ones : z.cells.toList.all one = true
  zsize : z.cells.size = ti.size
  kd : ti.kd = kdOf P d
  bytes : i.bytes = ti.bytes
  zone : aggD d = false → one z = true

theorem TI.spec {P : Program} {t : TypeId} {ti : TI} (h : TI.of P t = some ti) : ∃ i d z, TIs P t ti i d z := by
  unfold TI.of at h
  split at h
  · rename_i i d hi hd
    split at h
    · rename_i z hz
      split at h
      · rename_i hc
        simp only [Bool.and_eq_true, beq_iff_eq, Bool.or_eq_true] at hc
        cases h
        exact ⟨i, d, z, hi, hd, hz, rfl, rfl, rfl, hc.1.1, hc.1.2, rfl, rfl, fun ha => hc.2.resolve_left (by rw [ha]; simp)⟩
      · cases h
    · cases h
  · cases h

theorem isL_ofV {ρ : List Pl} {l : List Value} (h : l.all one = true) : IsL ρ (l.map CV.ofV) l := by
  induction l with
  | nil => exact IsL.nil ρ
  | cons v l ih =>
    simp only [List.all_cons, Bool.and_eq_true] at h
    exact IsL.cons (CV.den_ofV h.1) (ih h.2)

def SV.ofV : Value → SV
  | .agg cs => if cs.toList.all one then .agg (cs.toList.map CV.ofV) else .any
  | .tuple _ => .any
  | v => .c (CV.ofV v)

theorem SV.is_ofV {ρ : List Pl} (v : Value) : (SV.ofV v).is ρ v := by
  cases v with
  | agg cs =>
    unfold SV.ofV
    by_cases h : cs.toList.all one = true
    · simp only [h, if_true]
      exact ⟨cs.toList, isL_ofV h, by simp⟩
    · simp only [h]; exact trivial
  | tuple vs => exact trivial
  | _ => exact CV.den_ofV rfl

def ev (t : List SV) : Operand → SV
  | .tmp i => t.getD i .und
  | .const v => SV.ofV v
  | .global g => .c (.val (.pointer (some ⟨g, 0, none⟩)))
  | .func f => .fn f []

theorem ev_is {ρ : List Pl} {t : List SV} {a : Act} (h : IsS ρ t a.tmps.toList) (x : Operand) : (ev t x).is ρ (a.eval x) := by
  cases x with
  | tmp i =>
    have := h.get i
    simpa [ev, Act.eval, Array.getD_eq_getD_getElem?, List.getD_eq_getElem?_getD] using this
  | const v => exact SV.is_ofV v
  | global g => exact rfl
  | func f => exact ⟨[], rfl, rfl⟩

/-- What an operation that only computes or reads comes to. -/
inductive PR where
  | ok (v : SV) | okp (pre : Prop) (v : SV) | split (b : Bool) (x y : SV) | okps (pre : Prop) (b : Bool) (x y : SV) | fork (c : Prop) (x y : SV) | no

/-- It comes to the value u, in every world of W. -/
def PR.gives (ρ : List Pl) (P : Program) (S : World → Prop) (m : Sem Value) : PR → Prop
  | .ok v => ∃ u, v.is ρ u ∧ ∀ W, S W → m.run P W = .ok u W
  | .okp pre v => pre → ∃ u, v.is ρ u ∧ ∀ W, S W → m.run P W = .ok u W
  | .split b x y => ∃ u, (if b then x else y).is ρ u ∧ ∀ W, S W → m.run P W = .ok u W
  | .okps pre b x y => pre → ∃ u, (if b then x else y).is ρ u ∧ ∀ W, S W → m.run P W = .ok u W
  | .fork c x y => ∃ b : Bool, (b = true → c) ∧ ∃ u, (if b then x else y).is ρ u ∧ ∀ W, S W → m.run P W = .ok u W
  | .no => True

def binI (A : Arith) (op : BinOp) (k : IntKind) (a b : Int) : PR :=
  match op with
  | .add => if k.signed then .okp (A.fit k (A.add a b)) (.c (.int k (A.add a b))) else .ok (.c (.int k (A.wrap k (A.add a b))))
  | .sub => if k.signed then .okp (A.fit k (A.sub a b)) (.c (.int k (A.sub a b))) else .ok (.c (.int k (A.wrap k (A.sub a b))))
  | .mul => if k.signed then .okp (A.fit k (A.mul a b)) (.c (.int k (A.mul a b))) else .ok (.c (.int k (A.wrap k (A.mul a b))))
  | .quo => .okp (A.nz b) (.c (.int k (A.wrap k (A.quo a b))))
  | .rem => .okp (A.nz b) (.c (.int k (A.rem a b)))
  | .and => .ok (.c (.int k (A.bits .and k a b)))
  | .or => .ok (.c (.int k (A.bits .or k a b)))
  | .xor => .ok (.c (.int k (A.bits .xor k a b)))
  | .andNot => .ok (.c (.int k (A.bits .andNot k a b)))
  | .eql => .ok (.c (.bool (A.eq a b)))
  | .neq => .ok (.c (.bool (A.not (A.eq a b))))
  | .lss => .ok (.c (.bool (A.lt a b)))
  | .leq => .ok (.c (.bool (A.le a b)))
  | .gtr => .ok (.c (.bool (A.lt b a)))
  | .geq => .ok (.c (.bool (A.le b a)))
  | _ => .no

def binS (A : Arith) (op : BinOp) (l m : List UInt8) : PR :=
  match op with
  | .add => .okp (A.fitS l m) (.c (.str (A.app l m)))
  | .eql => .ok (.c (.bool (A.eqS l m)))
  | .neq => .ok (.c (.bool (A.not (A.eqS l m))))
  | .lss => .ok (.c (.bool (A.ltS l m)))
  | .geq => .ok (.c (.bool (A.not (A.ltS l m))))
  | .gtr => .ok (.c (.bool (A.ltS m l)))
  | .leq => .ok (.c (.bool (A.not (A.ltS m l))))
  | _ => .no


theorem bytesLess_total : ∀ l m : List UInt8, Op.bytesLess m l = !(Op.bytesLess l m || l == m)
  | [], [] => rfl
  | [], _ :: _ => rfl
  | _ :: _, [] => rfl
  | a :: x, b :: y => by
    simp only [Op.bytesLess]
    have ih := bytesLess_total x y
    rw [ih]
    by_cases h1 : a < b
    · have h2 : ¬ b < a := fun h => by have := UInt8.lt_irrefl a (UInt8.lt_trans h1 h); exact this
      have h3 : ¬ b = a := fun h => by subst h; exact UInt8.lt_irrefl _ h1
      simp [h1, h2, h3]
    · by_cases h2 : b < a
      · have h3 : ¬ a = b := fun h => by subst h; exact UInt8.lt_irrefl _ h2
        simp [h1, h2, h3]
      · have h3 : a = b := UInt8.le_antisymm (UInt8.not_lt.1 h2) (UInt8.not_lt.1 h1)
        subst h3
        simp [UInt8.lt_irrefl]

theorem toList_mk (l : List UInt8) : (ByteArray.mk l.toArray).toList = l := by
  simp

theorem binI_ok {ρ : List Pl} {P : Program} {S : World → Prop} {t : TypeId} (op : BinOp) (k : IntKind) (a b : Int) : (binI .std op k a b).gives ρ P S (binOp op t (.int k a) (.int k b)) := by
  cases op <;> simp only [binI] <;> try exact trivial
  case add | sub | mul =>
    split
    · intro hp
      refine ⟨_, rfl, fun W _ => ?_⟩
      have := fitStd_wrap hp
      simp [Arith.std] at this
      simp [binOp, Op.intArith, Arith.std, this]
    · refine ⟨_, rfl, fun W _ => ?_⟩
      simp [binOp, Op.intArith, Arith.std]
  case quo | rem =>
    intro hp
    have h0 : ¬ b = 0 := hp
    refine ⟨_, rfl, fun W _ => ?_⟩
    simp [binOp, Op.intDiv, Arith.std, h0]
  case and | or | xor | andNot =>
    refine ⟨_, rfl, fun W _ => ?_⟩
    simp [binOp, Op.intBits, Arith.std, bitsStd]
  case lss | leq | gtr | geq =>
    refine ⟨_, rfl, fun W _ => ?_⟩
    simp [binOp, Op.intCmp, Arith.std]
  case eql | neq =>
    refine ⟨_, rfl, fun W _ => ?_⟩
    by_cases h : a = b <;> simp [binOp, Op.intCmp, Arith.std, h]

theorem binS_ok {ρ : List Pl} {P : Program} {S : World → Prop} {t : TypeId} (op : BinOp) (l m : List UInt8) : (binS .std op l m).gives ρ P S (binOp op t (.string ⟨l.toArray⟩) (.string ⟨m.toArray⟩)) := by
  have hb := bytesLess_total l m
  have hb2 := bytesLess_total m l
  have he : (m == l) = (l == m) := by rw [Bool.eq_iff_iff, beq_iff_eq, beq_iff_eq]; exact ⟨Eq.symm, Eq.symm⟩
  cases op <;> simp only [binS] <;> try exact trivial
  case add =>
    intro hp
    refine ⟨_, rfl, fun W _ => ?_⟩
    have h1 : ¬ ((((⟨l.toArray⟩ : ByteArray).size + (⟨m.toArray⟩ : ByteArray).size : Nat) : Int) > IntKind.i64.max) := by
      have e0 : IntKind.i64.max = 9223372036854775807 := by rfl
      have e1 : (⟨l.toArray⟩ : ByteArray).size = l.length := rfl
      have e2 : (⟨m.toArray⟩ : ByteArray).size = m.length := rfl
      have hp' : (l.length : Int) + m.length ≤ 9223372036854775807 := hp
      rw [e0, e1, e2]
      omega
    have h2 : (⟨l.toArray⟩ : ByteArray) ++ ⟨m.toArray⟩ = ⟨(l ++ m).toArray⟩ := by
      apply ByteArray.ext
      simp [ByteArray.data_append]
    simp only [binOp, Op.stringOp]
    rw [if_neg h1, h2]
    rfl
  all_goals
    refine ⟨_, rfl, fun W _ => ?_⟩
    simp only [binOp, Op.stringOp, toList_mk, Arith.std]
    first
      | (simp; done)
      | (rw [hb]; simp; done)
      | (rw [hb]; simp [Bool.not_not]; done)
      | (by_cases h : l = m <;> simp [h]; done)
end Go.Proofs.Ytcgoaicifjndpaa.Vx
end

section
/- The walker's operations that only compute or read: what each comes to. -/
namespace Go.Proofs.Ytcgoaicifjndpaa.Vx
open Go.RowKit
set_option linter.unusedVariables false
set_option linter.unusedSimpArgs false

/-! ### '==' of structs whose fields are numbers, strings and bools -/
def eqV : Nat → Value → Value → Option Bool
  | 0, .int k a, .int k' b => if k = k' then some (decide (a = b)) else none
  | 1, .string a, .string b => some (decide (a.toList = b.toList))
  | 2, .bool a, .bool b => some (a == b)
  | _, _, _ => none
def eqVs : List Nat → List Value → List Value → Option Bool
  | [], [], [] => some true
  | g :: gs, x :: xs, y :: ys =>
    match eqV g x y, eqVs gs xs ys with
    | some a, some b => some (a && b)
    | _, _ => none
  | _, _, _ => none

structure FlatOk (P : Program) (t : TypeId) (gs : List Nat) : Prop where
  guard : P.eqGuardType P.depth t = false
  eql : ∀ xs ys b, eqVs gs xs ys = some b → ∀ W, (binOp .eql t (.agg xs.toArray) (.agg ys.toArray)).run P W = .ok (.bool b) W
  neq : ∀ xs ys b, eqVs gs xs ys = some b → ∀ W, (binOp .neq t (.agg xs.toArray) (.agg ys.toArray)).run P W = .ok (.bool !b) W
  equal : ∀ xs ys b, eqVs gs xs ys = some b → ∀ W, (Op.equal t (.agg xs.toArray) (.agg ys.toArray)).run P W = .ok b W
  check : ∀ vs, shKs gs vs → ∀ em W, (Instr.checkKey em 10000 t (.agg vs.toArray)).run P W = .ok () W

def lookN : List (Nat × List Nat) → Nat → Option (List Nat)
  | [], _ => none
  | (u, i) :: r, t => if u == t then some i else lookN r t
def FlatsOk (P : Program) (F : List (Nat × List Nat)) : Prop := ∀ t gs, lookN F t = some gs → FlatOk P t gs
theorem FlatsOk.nil (P : Program) : FlatsOk P [] := fun t i h => by cases h
theorem FlatsOk.cons {P : Program} {t : Nat} {i : List Nat} {F : List (Nat × List Nat)} (h : FlatOk P t i) (k : FlatsOk P F) : FlatsOk P ((t, i) :: F) := fun u j hu => by
  unfold lookN at hu
  by_cases e : t = u
  · subst e; simp at hu; rw [← hu]; exact h
  · simp [e] at hu; exact k u j hu

def eqC (A : Arith) : Nat → CV → CV → Option Bool
  | 0, .int k a, .int k' b => if k = k' then some (A.eq a b) else none
  | 1, .str l, .str m => some (A.eqS l m)
  | 2, .tt, .tt => some true
  | 2, .tt, .ff => some false
  | 2, .ff, .tt => some false
  | 2, .ff, .ff => some true
  | 2, .tt, .bool b => some b
  | 2, .bool b, .tt => some b
  | 2, .ff, .bool b => some (A.not b)
  | 2, .bool b, .ff => some (A.not b)
  | 2, .bool a, .bool b => some (A.eqB a b)
  | _, _, _ => none
def eqCs (A : Arith) : List Nat → List CV → List CV → Option Bool
  | [], [], [] => some true
  | g :: gs, x :: xs, y :: ys =>
    match eqC A g x y, eqCs A gs xs ys with
    | some a, some b => some (A.and a b)
    | _, _ => none
  | _, _, _ => none

theorem eqC_ok {ρ : List Pl} {g : Nat} {x y : CV} {u v : Value} {b : Bool} (hx : x.den ρ = some u) (hy : y.den ρ = some v) (h : eqC .std g x y = some b) : eqV g u v = some b := by
  unfold eqC at h
  split at h
  case h_12 => cases h
  all_goals
    simp only [CV.den, Option.some.injEq] at hx hy
    subst hx
    subst hy
  · split at h
    · simp only [eqV]
      rename_i hk
      rw [if_pos hk]; exact h
    · cases h
  · simp only [eqV, toList_mk]; exact h
  all_goals
    simp only [Arith.std, Option.some.injEq] at h
    subst h
    first
      | rfl
      | (rename_i b; cases b <;> rfl)

theorem eqCs_ok {ρ : List Pl} : ∀ {gs : List Nat} {xs ys : List CV} {us vs : List Value} {b : Bool}, IsL ρ xs us → IsL ρ ys vs → eqCs .std gs xs ys = some b → eqVs gs us vs = some b
  | [], [], [], us, vs, b, hx, hy, h => by
    cases us <;> cases vs <;> simp [IsL] at hx hy
    exact h
  | g :: gs, x :: xs, y :: ys, us, vs, b, hx, hy, h => by
    cases us with
    | nil => simp [IsL] at hx
    | cons u us =>
      cases vs with
      | nil => simp [IsL] at hy
      | cons v vs =>
        simp only [IsL, List.map_cons, List.cons.injEq] at hx hy
        simp only [eqCs] at h
        split at h
        · rename_i a c ha hc
          have e1 := eqC_ok hx.1 hy.1 ha
          have e2 := eqCs_ok hx.2 hy.2 hc
          simp only [eqVs, e1, e2]
          exact h
        · cases h
  | [], _ :: _, _, us, vs, b, hx, hy, h => by simp [eqCs] at h
  | [], [], _ :: _, us, vs, b, hx, hy, h => by simp [eqCs] at h
  | _ :: _, [], _, us, vs, b, hx, hy, h => by simp [eqCs] at h
  | _ :: _, _ :: _, [], us, vs, b, hx, hy, h => by simp [eqCs] at h

/-! ### The operations -/
/-- What the walker is told beside the text: types, structs that compare cell by cell. -/
structure Tbl where
  T : List (Nat × TI)
  F : List (Nat × List Nat)
  sym : Bool := false
  flat : Bool := false
  mks : Bool := false
  Q : List (Nat × (Nat × Nat × Nat)) := []

structure Tbl.Ok (P : Program) (E : Tbl) : Prop where
  T : TblOk P E.T
  F : FlatsOk P E.F

def ag (b : Bool) (cs : List CV) (off size : Nat) : PR :=
  if b then (if Nat.ble (off + size) cs.length then .ok (.agg ((cs.drop off).take size)) else .no)
  else match cs[off]? with
    | some x => .ok (.c x)
    | none => .no

def binB (A : Arith) (op : BinOp) (x y : CV) : PR :=
  match op, eqC A 2 x y with
  | .eql, some b => .ok (.c (.bool b))
  | .neq, some b => .ok (.c (.bool (A.not b)))
  | _, _ => .no

def binA (A : Arith) (E : Tbl) (op : BinOp) (t : Nat) (xs ys : List CV) : PR :=
  match lookN E.F t with
  | some gs =>
    match op, eqCs A gs xs ys with
    | .eql, some b => .ok (.c (.bool b))
    | .neq, some b => .ok (.c (.bool (A.not b)))
    | _, _ => .no
  | none => .no

def bin (A : Arith) (E : Tbl) (op : BinOp) (t : Nat) : SV → SV → PR
  | .c (.int k a), .c (.int k' b) =>
    match op with
    | .shl => .okp (A.nneg b) (.c (.int k (A.shl k a b)))
    | .shr => .okp (A.nneg b) (.c (.int k (A.shr k a b)))
    | op => if k = k' then binI A op k a b else .no
  | .c (.str l), .c (.str m) => binS A op l m
  | .agg xs, .agg ys => binA A E op t xs ys
  | .c (.ptr k off), .c (.val (.pointer none)) => match look E.T t with
    | some i => match i.kd with
      | .ptr _ => match op with
        | .eql => .ok (.c .ff)
        | .neq => .ok (.c .tt)
        | _ => .no
      | _ => .no
    | none => .no
  | .c x, .c y => match look E.T t with
    | some i => match i.kd with
      | .bool => binB A op x y
      | _ => .no
    | none => .no
  | _, _ => .no

def un (A : Arith) (op : UnOp) : SV → PR
  | .c (.int k n) => match op with
    | .neg => match k.signed with
      | true => .okp (A.fit k (A.sub 0 n)) (.c (.int k (A.sub 0 n)))
      | false => .ok (.c (.int k (A.wrap k (A.sub 0 n))))
    | .xor => .ok (.c (.int k (A.bits .xor k (match k.signed with | true => -1 | false => k.max) n)))
    | _ => .no
  | .c .tt => match op with | .not => .ok (.c .ff) | _ => .no
  | .c .ff => match op with | .not => .ok (.c .tt) | _ => .no
  | .c (.bool b) => match op with | .not => .ok (.c (.bool (A.not b))) | _ => .no
  | _ => .no

def isU8 (E : Tbl) (e : Nat) : Bool :=
  match look E.T e with
  | some ei => match ei.kd with
    | .int .u8 => true
    | _ => false
  | none => false

/-! ### Maps whose keys are numbers or structs of one shape, and whose values are numbers -/
def mapTy (E : Tbl) (t : Nat) : Option (List Nat) :=
  match look E.T t with
  | some ti => match ti.kd with
    | .map kt et => match look E.T et, look E.T kt with
      | some ei, some ki => match ei.kd, ei.zero, ki.kd with
        | .int .i64, [.int .i64 0], .int .i64 => some []
        | .int .i64, [.int .i64 0], .struct _ => match lookN E.F kt with
          | some (g :: gs) => some (g :: gs)
          | _ => none
        | _, _, _ => none
      | _, _ => none
    | _ => none
  | none => none
def cellsK : List Nat → List CV → Option (List Value)
  | [], [] => some []
  | 0 :: gs, .int .i64 n :: r => match cellsK gs r with
    | some vs => some (.int .i64 n :: vs)
    | none => none
  | 1 :: gs, .str l :: r => match cellsK gs r with
    | some vs => some (.string ⟨l.toArray⟩ :: vs)
    | none => none
  | 2 :: gs, .bool b :: r => match cellsK gs r with
    | some vs => some (.bool b :: vs)
    | none => none
  | 2 :: gs, .tt :: r => match cellsK gs r with
    | some vs => some (.bool true :: vs)
    | none => none
  | 2 :: gs, .ff :: r => match cellsK gs r with
    | some vs => some (.bool false :: vs)
    | none => none
  | _, _ => none
def keyC : List Nat → SV → Option Value
  | [], .c (.int .i64 n) => some (.int .i64 n)
  | g :: gs, .agg cs => match cellsK (g :: gs) cs with
    | some vs => some (.agg vs.toArray)
    | none => none
  | _, _ => none
open Classical in
/-- The number under a key, or 0. -/
noncomputable def mpGet (key : Value) : List (Value × Int) → Int
  | [] => 0
  | q :: r => if q.1 = key then q.2 else mpGet key r
open Classical in
noncomputable def mpSet (key : Value) (n : Int) : List (Value × Int) → List (Value × Int)
  | [] => [(key, n)]
  | q :: r => if q.1 = key then (key, n) :: r else q :: mpSet key n r
/-- The kinds of a record's numbers; behind them a pointer. -/
def kindsQ : List CV → Option (List IntKind)
  | [.val (.pointer none)] => some []
  | .int k 0 :: r => match kindsQ r with
    | some ks => some (k :: ks)
    | none => none
  | _ => none
def look3 : List (Nat × (Nat × Nat × Nat)) → Nat → Option (Nat × Nat × Nat)
  | [], _ => none
  | (u, i) :: r, t => match Nat.beq u t with
    | true => some i
    | false => look3 r t
/-- A map with records as values. -/
def mapTyQ (E : Tbl) (t : Nat) : Option MTy :=
  match look3 E.Q t with
  | some (T, e, sz) => match look E.T t with
    | some ti => match ti.kd with
      | .map kt et => match look E.T et, look E.T kt with
        | some ei, some ki => match ki.kd, lookN E.F kt, kindsQ ei.zero with
          | .struct _, some (g :: gs), some (k :: ks) => some ⟨g :: gs, k :: ks, T, e, sz⟩
          | _, _, _ => none
        | _, _ => none
      | _ => none
    | none => none
  | none => none
open Classical in
/-- Is there a record under a key? -/
noncomputable def mqHas (key : Value) : List (Value × MRec) → Bool
  | [] => false
  | q :: r => if q.1 = key then true else mqHas key r
open Classical in
noncomputable def mqRec (key : Value) : List (Value × MRec) → MRec
  | [] => ⟨fun _ => 0, 0, fun _ => []⟩
  | q :: r => if q.1 = key then q.2 else mqRec key r
open Classical in
noncomputable def mqSet (key : Value) (m : MRec) : List (Value × MRec) → List (Value × MRec)
  | [] => [(key, m)]
  | q :: r => if q.1 = key then (key, m) :: r else q :: mqSet key m r
noncomputable def mqNum (key : Value) (l : List (Value × MRec)) : Nat → Int := (mqRec key l).num
noncomputable def mqN (key : Value) (l : List (Value × MRec)) : Nat := (mqRec key l).n
noncomputable def mqRow (key : Value) (l : List (Value × MRec)) : Nat → List CV := (mqRec key l).get
/-- The numbers of a record that is put in, and the entry that its pointer leads to. -/
def recC : List IntKind → List CV → Option (List Int × Nat)
  | [], [.ptr k 0] => some ([], k)
  | kd :: ks, .int kd' n :: r => match kd == kd' with
    | true => match recC ks r with
      | some (ns, k) => some (n :: ns, k)
      | none => none
    | false => none
  | _, _ => none
def numL (ns : List Int) (i : Nat) : Int := ns.getD i 0
def resQ (cm : Bool) (cs : List CV) (b : CV) : SV := match cm with
  | true => .tup [(none, cs), (some b, [])]
  | false => .agg cs
noncomputable def lookQ (E : Tbl) (h : List Ent) (t : Nat) (m k : SV) : Option (MTy × List IntKind × Value × List (Value × MRec)) :=
  match m with
  | .c (.row j) => match h[j]? with
    | some (.mq mt l) => match mapTyQ E t with
      | some mt' => match mt'.gs == mt.gs, keyC mt.gs k with
        | true, some kv => some (mt, mt'.ks, kv, l)
        | _, _ => none
      | none => none
    | _ => none
  | _ => none
noncomputable def lookM (E : Tbl) (h : List Ent) (t : Nat) (cm : Bool) (m k : SV) : PR :=
  match m, cm with
  | .c (.row j), false => match mapTy E t, h[j]? with
    | some gs, some (.mp gs' l) => match gs == gs' with
      | true => match keyC gs k with
        | some v => .ok (.c (.int .i64 (mpGet v l)))
        | none => .no
      | false => .no
    | _, _ => .no
  | _, _ => .no
/-- Cells that are integers of one kind. -/
def ints (k : IntKind) : List CV → Option (List Int)
  | [] => some []
  | .int k' n :: r => match k == k' with
    | true => match ints k r with
      | some l => some (n :: l)
      | none => none
    | false => none
  | _ => none
def conv (A : Arith) (E : Tbl) (h : List Ent) (s d : Nat) (x : SV) : PR :=
  match look E.T s, look E.T d with
  | some i, some j =>
    match j.kd, x with
    | .int k, .c (.int _ n) => .ok (.c (.int k (A.wrap k n)))
    | .str, .c (.str l) => .ok (.c (.str l))
    | .str, .c (.row r) => match i.kd, h[r]? with
      | .slice e, some (.bytes e' l) => if Nat.beq e e' && isU8 E e then .ok (.c (.str l)) else .no
      | _, _ => .no
    | .str, .c (.sl r off len cap) => match i.kd, h[r]? with
      | .slice e, some (.cells _ cs) => if isU8 E e then (match ints .u8 ((cs.drop off).take len) with
        | some ns => if Nat.beq ns.length len then .ok (.c (.str (ns.map A.byte))) else .no
        | none => .no) else .no
      | _, _ => .no
    | .str, .c (.val (.slice none 0 0)) => match i.kd with
      | .slice e => if isU8 E e then .ok (.c (.str [])) else .no
      | _ => .no
    | _, _ => .no
  | _, _ => .no

def fieldRow (E : Tbl) (t f : Nat) : Option (Nat × Nat × Bool) :=
  match look E.T t with
  | some i => match i.kd with
    | .struct fs => fs[f]?
    | _ => none
  | none => none

/-- Cells that hold no slices. -/
def plC (f : Nat → Cell) : Nat → Nat → Option (List CV)
  | _, 0 => some []
  | o, n + 1 => match f o with
    | .pl x => match plC f (o + 1) n with
      | some r => some (x :: r)
      | none => none
    | _ => none
noncomputable def loadR (A : Arith) (E : Tbl) (h : List Ent) (t : Nat) : SV → PR
  | .c (.ptr k off) =>
    match look E.T t, h[k]? with
    | some i, some (.cells _ cs) => ag i.agg cs off i.size
    | _, _ => .no
  | .c (.eptr k i sz off) =>
    match look E.T t, (h[k]?).bind Ent.elts with
    | some ti, some (sz', n, get) => if Nat.beq sz sz' then (match ag ti.agg (get i) off ti.size with
      | .ok v => .okp (A.ltN i n) v
      | _ => .no) else .no
    | some ti, none => match (h[k]?).bind Ent.dview with
      | some (_, sz', n, get) => if Nat.beq sz sz' && Nat.ble (off + ti.size) sz' then (match plC (get i) off ti.size with
        | some cs => match ag ti.agg cs 0 ti.size with
          | .ok v => .okp (A.ltN i n) v
          | _ => .no
        | none => .no) else .no
      | none => .no
    | none, _ => .no
  | .c (.aptr k i off m) =>
    match look E.T t, h[k]? with
    | some ti, some (.cells _ cs) => match ti.kd, ti.agg with
      | .int kk, false => match ints kk ((cs.drop off).take m) with
        | some es => if Nat.beq es.length m then .okp (A.ltN i m) (.c (.int kk (A.sel i es))) else .no
        | none => .no
      | _, _ => .no
    | _, _ => .no
  | _ => .no

/-- Is an index not written out? -/
def isVar : Operand → Bool
  | .const _ => false
  | _ => true
/-- Where a variable of the package stands. -/
def globOf : Value → Option Nat
  | .pointer (some ⟨g, 0, none⟩) => some g
  | _ => none
def findG (g : Nat) : List Ent → Nat → Option (Nat × Nat × Nat)
  | [], _ => none
  | .glob g' sz n _ :: r, k => match Nat.beq g g' with
    | true => some (k, sz, n)
    | false => findG g r (k + 1)
  | _ :: r, k => findG g r (k + 1)
noncomputable def idxAddr (A : Arith) (E : Tbl) (h : List Ent) (sy : Bool) (t : Nat) (x i : SV) : PR :=
  match x, i with
  | .c (.row k), .c (.int _ n) =>
    match look E.T t, (h[k]?).bind Ent.shape with
    | some ti, some (sz, m) => match ti.kd with
      | .slice e => match look E.T e with
        | some ei => if Nat.beq ei.size sz then .okp (A.inN n m) (.c (.eptr k (A.natOf n) sz 0)) else .no
        | none => .no
      | _ => .no
    | _, _ => .no
  | .c (.vsl k lo m sz'), .c (.int _ n) =>
    match look E.T t, (h[k]?).bind Ent.shape with
    | some ti, some (sz, m') => match ti.kd with
      | .slice e => match look E.T e with
        | some ei => if Nat.beq ei.size sz && Nat.beq sz sz' then .okp (A.inN n m) (.c (.eptr k (A.addN lo (A.natOf n)) sz 0)) else .no
        | none => .no
      | _ => .no
    | _, _ => .no
  | .c (.sl k off len cap), .c (.int _ n) =>
    match look E.T t with
    | some ti => match ti.kd with
      | .slice e => match look E.T e with
        | some ei => match sy && Nat.beq ei.size 1 with
          | true => .okp (A.inN n len) (.c (.aptr k (A.natOf n) off len))
          | false => .okp (A.inN n len) (.c (.ptr k (off + n.toNat * ei.size)))
        | none => .no
      | _ => .no
    | none => .no
  | .c (.ptr k off), .c (.int _ n) =>
    match look E.T t with
    | some ti => match ti.kd with
      | .array m e => match look E.T e with
        | some ei => match sy && Nat.beq ei.size 1 with
          | true => .okp (A.inN n m) (.c (.aptr k (A.natOf n) off m))
          | false => .okp (A.inN n m) (.c (.ptr k (off + n.toNat * ei.size)))
        | none => .no
      | _ => .no
    | none => .no
  | .c (.val v), .c (.int _ n) => match globOf v with
    | some g => match findG g h 0, look E.T t with
      | some (k, sz, m), some ti => match ti.kd with
        | .array m' e => match look E.T e with
          | some ei => match Nat.beq ei.size sz && Nat.beq m m' with
            | true => .okp (A.inN n m) (.c (.eptr k (A.natOf n) sz 0))
            | false => .no
          | none => .no
        | _ => .no
      | _, _ => .no
    | none => .no
  | _, _ => .no

def idx (A : Arith) (E : Tbl) (sy : Bool) (t : Nat) (x i : SV) : PR :=
  match x, i with
  | .c (.str l), .c (.int k n) => match look E.T t with
    | some ti => match ti.kd with
      | .str => .okp (A.inS n l) (.c (.int .u8 (A.at_ l n)))
      | _ => .no
    | none => .no
  | .agg cs, .c (.int k n) => match look E.T t with
    | some ti => match ti.kd with
      | .array m e => match look E.T e with
        | some ei => match m, ag ei.agg cs 0 ei.size, ag ei.agg cs ei.size ei.size with
          | 2, .ok v, .ok w => .okps (A.inN n 2) (A.eq n 0) v w
          | m, _, _ => match ei.kd, ei.agg with
            | .int kk, false => match ints kk cs with
              | some es => if Nat.beq es.length m && Nat.beq ei.size 1 then (match sy with
                | true => .okp (A.inN n m) (.c (.int kk (A.sel (A.natOf n) es)))
                | false => .okp (A.inN n m) (.c (.int kk (es.getD n.toNat 0)))) else .no
              | none => .no
            | _, _ => .no
        | none => .no
      | _ => .no
    | none => .no
  | _, _ => .no

def bnd (d : Int) : Option SV → Option Int
  | none => some d
  | some (.c (.int _ n)) => some n
  | some _ => none

noncomputable def slc (A : Arith) (E : Tbl) (h : List Ent) (t : Nat) (x : SV) (lo hi mx : Option SV) : PR :=
  match x, mx with
  | .c (.str l), none => match look E.T t with
    | some ti => match ti.kd with
      | .str => match bnd 0 lo, bnd (A.len l) hi with
        | some a, some b => .okp (A.inSl a b l) (.c (.str (A.sub_ l a b)))
        | _, _ => .no
      | _ => .no
    | none => .no
  | .c (.ptr k off), none => match lo, hi, look E.T t with
    | none, none, some ti => match ti.kd with
      | .array m e => match look E.T e with
        | some _ => if Nat.beq m 0 then .no else .ok (.c (.sl k off m m))
        | none => .no
      | _ => .no
    | _, _, _ => .no
  | .c (.row k), none => match look E.T t, (h[k]?).bind Ent.shape with
    | some ti, some (sz, m) => match ti.kd with
      | .slice e => match look E.T e, bnd 0 lo, bnd (A.natI m) hi with
        | some ei, some a, some b => if Nat.beq ei.size sz then .okp (A.inSlN a b m) (.c (.vsl k (A.natOf a) (A.subI b a) sz)) else .no
        | _, _, _ => .no
      | _ => .no
    | _, _ => .no
  | .c (.vsl k l0 n0 sz), none => match look E.T t, (h[k]?).bind Ent.shape with
    | some ti, some (sz1, _) => match ti.kd with
      | .slice e => match look E.T e, bnd 0 lo, bnd (A.natI n0) hi with
        | some ei, some a, some b => if Nat.beq sz sz1 && Nat.beq ei.size sz then .okp (A.inSlN a b n0 ∧ A.cutOk a n0) (.c (.vsl k (A.addN l0 (A.natOf a)) (A.subI b a) sz)) else .no
        | _, _, _ => .no
      | _ => .no
    | _, _ => .no
  | _, _ => .no

def svCells : SV → Option (List CV)
  | .c x => some [x]
  | .agg cs => some cs
  | _ => none

def setMany : List CV → Nat → List CV → List CV
  | cs, _, [] => cs
  | cs, o, x :: xs => setMany (cs.set o x) (o + 1) xs

def fillC (pl : Nat → Option (Nat × Nat)) : List CV → List (Nat × SV) → Option (List CV)
  | cs, [] => some cs
  | cs, (i, v) :: r =>
    match pl i, svCells v with
    | some (o, n), some xs => if Nat.beq xs.length n && Nat.ble (o + n) cs.length then fillC pl (setMany cs o xs) r else none
    | _, _ => none

def bld (E : Tbl) (t : Nat) (parts : List (Nat × SV)) : PR :=
  match look E.T t with
  | some i => match i.kd with
    | .struct fs => match fillC (fun j => (fs[j]?).map fun r => (r.1, r.2.1)) i.zero parts with
      | some cs => .ok (.agg cs)
      | none => .no
    | .array m e => match look E.T e with
      | some ei => match fillC (fun j => some (j * ei.size, ei.size)) i.zero parts with
        | some cs => .ok (.agg cs)
        | none => .no
      | none => .no
    | _ => .no
  | none => .no

/-- The greater, or the lesser, of two integers. -/
def mmx (A : Arith) (g : Bool) : SV → SV → PR
  | .c (.int k a), .c (.int _ b) => match g with
    | true => .ok (.c (.int k (A.maxI a b)))
    | false => .ok (.c (.int k (A.minI a b)))
  | _, _ => .no

/-- How many keys a map has. -/
def mpLen (l : List (Value × Int)) : Nat := l.length
noncomputable def lenR (A : Arith) (E : Tbl) (h : List Ent) (t : Nat) : SV → PR
  | .c (.row k) => match look E.T t, h[k]? with
    | some i, some (.bytes _ l) => match i.kd with
      | .slice _ => .ok (.c (.int .i64 (A.len l)))
      | _ => .no
    | some i, some en => match en.shape with
      | some (_, n) => match i.kd with
        | .slice _ => .ok (.c (.int .i64 (A.natI n)))
        | _ => .no
      | none => match en, i.kd with
        | .mp _ l, .map _ _ => .ok (.c (.int .i64 (A.natI (mpLen l))))
        | _, _ => .no
    | _, _ => .no
  | .c (.sl k off len cap) => match look E.T t with
    | some i => match i.kd with
      | .slice _ => .ok (.c (.int .i64 (A.natI len)))
      | _ => .no
    | none => .no
  | .c (.vsl k lo n sz) => match look E.T t with
    | some i => match i.kd with
      | .slice _ => .ok (.c (.int .i64 (A.natI n)))
      | _ => .no
    | none => .no
  | .c (.str l) => match look E.T t with
    | some i => match i.kd with
      | .str => .ok (.c (.int .i64 (A.len l)))
      | _ => .no
    | none => .no
  | _ => .no

/-- What a function value holds. -/
def caps1 : List SV → Option (List CV)
  | [] => some []
  | .c x :: r => match caps1 r with
    | some xs => some (x :: xs)
    | none => none
  | _ => none
def mkF : Fn → List Operand → List SV → PR
  | .func f, [], l => match caps1 l with
    | some cs => .ok (.fn f cs)
    | none => .no
  | _, _, _ => .no
/-- A slice beside nil: which it is, is not known where there are no elements. -/
noncomputable def binN (A : Arith) (E : Tbl) (h : List Ent) (op : BinOp) (t : Nat) (x y : SV) : PR :=
  match x, y with
  | .c (.row k), .c (.val (.slice none 0 0)) => match look E.T t, (h[k]?).bind Ent.shape with
    | some ti, some (sz, n) => match ti.kd with
      | .slice _ => match op with
        | .eql => .fork (n = 0) (.c .tt) (.c .ff)
        | .neq => .fork (n = 0) (.c .ff) (.c .tt)
        | _ => .no
      | _ => .no
    | _, _ => .no
  | x, y => bin A E op t x y
noncomputable def pev (A : Arith) (E : Tbl) (h : List Ent) (e : Operand → SV) : Op → PR
  | .move x => .ok (e x)
  | .assign x => .ok (e x)
  | .pick c a b => match e c with
    | .c .tt => .ok (e a)
    | .c .ff => .ok (e b)
    | .c (.bool q) => .split q (e a) (e b)
    | _ => .no
  | .nilCheck x => match e x with
    | .c (.ptr k off) => .ok (.c (.ptr k off))
    | .c (.eptr k i sz off) => .ok (.c (.eptr k i sz off))
    | .fn f cs => .ok (.fn f cs)
    | _ => .no
  | .binOp op t x y _ => binN A E h op t (e x) (e y)
  | .unOp op _ x => un A op (e x)
  | .convert s d x => conv A E h s d (e x)
  | .fieldAddr t x f => match fieldRow E t f, e x with
    | some (o, n, _), .c (.ptr k off) => if Nat.beq n 0 then .no else .ok (.c (.ptr k (off + o)))
    | some (o, n, _), .c (.eptr k i sz off) => if Nat.beq n 0 then .no else .ok (.c (.eptr k i sz (off + o)))
    | _, _ => .no
  | .field t x f => match fieldRow E t f, e x with
    | some (o, n, b), .agg cs => ag b cs o n
    | _, _ => .no
  | .load t x => loadR A E h t (e x)
  | .lookup t m k cm => lookM E h t cm (e m) (e k)
  | .indexAddr t x i => idxAddr A E h (E.sym && isVar i) t (e x) (e i)
  | .extract x i => match e x with
    | .tup vs => match vs[i]? with
      | some (some y, _) => .ok (.c y)
      | some (none, cs) => .ok (.agg cs)
      | none => .no
    | _ => .no
  | .index t x i => idx A E (isVar i) t (e x) (e i)
  | .slice t x lo hi mx => slc A E h t (e x) (lo.map e) (hi.map e) (mx.map e)
  | .makeFunc fn first caps => mkF fn first.toList (caps.toList.map e)
  | .build t parts => bld E t (parts.toList.map fun p => (p.1, e p.2))
  | .call c => match c.callee with
    | .builtin .len => match c.argTypes.toList, c.args.toList with
      | t :: _, x :: _ => lenR A E h t (e x)
      | _, _ => .no
    | .builtin .max => match c.args with
      | ⟨[x, y]⟩ => mmx A true (e x) (e y)
      | _ => .no
    | .builtin .min => match c.args with
      | ⟨[x, y]⟩ => mmx A false (e x) (e y)
      | _ => .no
    | _ => .no
  | _ => .no
end Go.Proofs.Ytcgoaicifjndpaa.Vx
end

section
/- The walker's operations that only compute or read: that each comes to what is said. -/
namespace Go.Proofs.Ytcgoaicifjndpaa.Vx
open Go.RowKit
set_option linter.unusedVariables false
set_option linter.unusedSimpArgs false

def PR.givesN (ρ : List Pl) (P : Program) (S : World → Prop) (m : Sem Next) : PR → Prop
  | .ok v => ∃ u, v.is ρ u ∧ ∀ W, S W → m.run P W = .ok (.value u) W
  | .okp pre v => pre → ∃ u, v.is ρ u ∧ ∀ W, S W → m.run P W = .ok (.value u) W
  | .split b x y => ∃ u, (if b then x else y).is ρ u ∧ ∀ W, S W → m.run P W = .ok (.value u) W
  | .okps pre b x y => pre → ∃ u, (if b then x else y).is ρ u ∧ ∀ W, S W → m.run P W = .ok (.value u) W
  | .fork c x y => ∃ b : Bool, (b = true → c) ∧ ∃ u, (if b then x else y).is ρ u ∧ ∀ W, S W → m.run P W = .ok (.value u) W
  | .no => True

theorem PR.lift {ρ : List Pl} {P : Program} {S : World → Prop} {m : Sem Value} {r : PR} (h : r.gives ρ P S m) : r.givesN ρ P S (do pure (Next.value (← m))) := by
  have key : ∀ {u : Value}, (∀ W, S W → m.run P W = .ok u W) → ∀ W, S W → (do pure (Next.value (← m)) : Sem Next).run P W = .ok (.value u) W := fun hu W hW => by
    rw [Sem.run_bind, hu W hW]; rfl
  cases r with
  | ok v => obtain ⟨u, h1, h2⟩ := h; exact ⟨u, h1, key h2⟩
  | okp pre v => intro hp; obtain ⟨u, h1, h2⟩ := h hp; exact ⟨u, h1, key h2⟩
  | split b x y => obtain ⟨u, h1, h2⟩ := h; exact ⟨u, h1, key h2⟩
  | okps pre b x y => intro hp; obtain ⟨u, h1, h2⟩ := h hp; exact ⟨u, h1, key h2⟩
  | fork c x y => obtain ⟨b, hc, u, h1, h2⟩ := h; exact ⟨b, hc, u, h1, key h2⟩
  | no => trivial

/-- What else is known of what is read. -/
def MemDat (ρ : List Pl) (h : List Ent) (W : World) : Prop := ∀ (k : Nat) (e : Ent) (p : Pl), h[k]? = some e → ρ[k]? = some p → ∃ D, e.dat W D p
def MemOk (ρ : List Pl) (h : List Ent) (W : World) : Prop := ∀ (k : Nat) (e : Ent) (p : Pl), h[k]? = some e → ρ[k]? = some p → e.ok ρ p W

theorem ag_ok {ρ : List Pl} {cs : List CV} {vs : List Value} (h : IsL ρ cs vs) (b : Bool) (off size : Nat) :
    match ag b cs off size with
    | .ok v => ∃ u, v.is ρ u ∧ (if b then (off + size ≤ vs.length ∧ u = .agg ((vs.drop off).take size).toArray) else vs[off]? = some u)
    | .no => True
    | _ => False := by
  unfold ag
  cases b with
  | true =>
    by_cases hn : off + size ≤ cs.length
    · simp only [if_true, Nat.ble_eq, hn]
      exact ⟨_, ⟨_, (h.drop off).take size, rfl⟩, by rw [← h.len]; exact hn, rfl⟩
    · simp only [if_true, Nat.ble_eq, hn, if_false]
  | false =>
    simp only [Bool.false_eq_true, if_false]
    cases hc : cs[off]? with
    | none => trivial
    | some x =>
      obtain ⟨u, h1, h2⟩ := h.get hc
      exact ⟨u, h2, h1⟩

theorem isL_setMany {ρ : List Pl} : ∀ {xs cs : List CV} {us vs : List Value} (o : Nat), IsL ρ xs us → IsL ρ cs vs → IsL ρ (setMany cs o xs) ((us.zipIdx.foldl (fun cs (c, j) => cs.setIfInBounds (o + j) c) vs.toArray).toList)
  | [], cs, us, vs, o, hx, hc => by
    cases us with
    | nil => exact hc
    | cons => simp [IsL] at hx
  | x :: xs, cs, us, vs, o, hx, hc => by
    cases us with
    | nil => simp [IsL] at hx
    | cons u us =>
      simp only [IsL, List.map_cons, List.cons.injEq] at hx
      have ih := isL_setMany (xs := xs) (us := us) (o + 1) hx.2 (hc.set o hx.1)
      simp only [setMany]
      simp only [List.zipIdx_cons, List.foldl_cons, Nat.add_zero, List.setIfInBounds_toArray]
      rw [List.zipIdx_eq_map_add, List.foldl_map]
      have e : ∀ j, o + (0 + 1 + j) = o + 1 + j := fun j => by omega
      have e2 : (fun (x : Array Value) (y : Value × Nat) => x.setIfInBounds (o + (y.2 + (0 + 1))) y.1) = fun x y => x.setIfInBounds (o + 1 + y.2) y.1 := by
        funext x y; rw [show o + (y.2 + (0 + 1)) = o + 1 + y.2 by omega]
      first
        | (rw [e2]; exact ih)
        | (simpa [Nat.add_assoc, Nat.add_comm, Nat.add_left_comm] using ih)

theorem svCells_ok {ρ : List Pl} {v : SV} {u : Value} {xs : List CV} (h : v.is ρ u) (hc : svCells v = some xs) : ∃ us, IsL ρ xs us ∧ u.cells = us.toArray := by
  cases v with
  | c x =>
    simp only [svCells, Option.some.injEq] at hc
    subst hc
    have h1 := CV.den_oneCell h
    refine ⟨[u], IsL.cons h (IsL.nil ρ), ?_⟩
    cases u <;> first | rfl | cases h1
  | agg cs =>
    simp only [svCells, Option.some.injEq] at hc
    subst hc
    obtain ⟨vs, h1, rfl⟩ := h
    exact ⟨vs, h1, rfl⟩
  | _ => cases hc

def IsP (ρ : List Pl) : List (Nat × SV) → List (Nat × Value) → Prop
  | [], us => us = []
  | e :: es, us => ∃ u us', us = (e.1, u) :: us' ∧ e.2.is ρ u ∧ IsP ρ es us'

theorem fill_ok {ρ : List Pl} {pl : Nat → Option (Nat × Nat)} : ∀ {ps : List (Nat × SV)} {qs : List (Nat × Value)} {cs : List CV} {vs : List Value} {cs' : List CV}, IsP ρ ps qs → IsL ρ cs vs → fillC pl cs ps = some cs' →
    ∃ vs', IsL ρ cs' vs' ∧ Instr.fill pl vs.toArray qs = some vs'.toArray
  | [], qs, cs, vs, cs', hp, hc, h => by
    cases hp
    simp only [fillC, Option.some.injEq] at h
    subst h
    exact ⟨vs, hc, rfl⟩
  | (i, v) :: ps, qs, cs, vs, cs', hp, hc, h => by
    obtain ⟨u, qs', rfl, h1, h2⟩ := hp
    simp only [fillC] at h
    split at h
    · rename_i o n xs hpl hxs
      split at h
      · rename_i hb
        simp only [Bool.and_eq_true, Nat.beq_eq, Nat.ble_eq] at hb
        obtain ⟨us, hu1, hu2⟩ := svCells_ok h1 hxs
        have hset := isL_setMany o hu1 hc
        obtain ⟨vs', hv1, hv2⟩ := fill_ok h2 hset h
        refine ⟨vs', hv1, ?_⟩
        have e1 : us.length = n := by rw [← hu1.len]; exact hb.1
        have e2 : vs.length = cs.length := hc.len.symm
        have e3 : ¬ (us.toArray.size ≠ n || decide (o + us.toArray.size > vs.toArray.size)) = true := by
          simp [e1, e2]
          exact hb.2
        simp only [Instr.fill, hpl, hu2]
        rw [if_neg e3]
        have e4 : us.toArray.zipIdx.foldl (fun cs (c, j) => cs.setIfInBounds (o + j) c) vs.toArray = (us.zipIdx.foldl (fun cs (c, j) => cs.setIfInBounds (o + j) c) vs.toArray) := by
          simp
        rw [e4]
        simpa using hv2
      · cases h
    · cases h

theorem fieldsOf_get {P : Program} : ∀ {fs : List Field} {r : List (Nat × Nat × Bool)}, fieldsOf P fs = some r → ∀ {j : Nat} {o n : Nat} {b : Bool}, r[j]? = some (o, n, b) →
    ∃ f i d, fs[j]? = some f ∧ P.info? f.type = some i ∧ P.underlying f.type = some d ∧ f.offset = o ∧ i.size = n ∧ aggD d = b
  | [], r, h, j, o, n, b, hj => by simp [fieldsOf] at h; subst h; simp at hj
  | f :: fs, r, h, j, o, n, b, hj => by
    simp only [fieldsOf] at h
    split at h
    · rename_i i d r' hi hd hr
      simp only [Option.some.injEq] at h
      subst h
      cases j with
      | zero =>
        simp only [List.getElem?_cons_zero, Option.some.injEq, Prod.mk.injEq] at hj
        exact ⟨f, i, d, rfl, hi, hd, hj.1, hj.2.1, hj.2.2⟩
      | succ j => simpa using fieldsOf_get hr (by simpa using hj)
    · cases h

theorem fieldsOf_places {P : Program} : ∀ {fs : List Field} {r : List (Nat × Nat × Bool)}, fieldsOf P fs = some r → fs.mapM (fun f => (P.info? f.type).map fun i => (f.offset, i.size)) = some (r.map fun q => (q.1, q.2.1))
  | [], r, h => by simp [fieldsOf] at h; subst h; rfl
  | f :: fs, r, h => by
    simp only [fieldsOf] at h
    split at h
    · rename_i i d r' hi hd hr
      simp only [Option.some.injEq] at h
      subst h
      simp [List.mapM_cons, hi, fieldsOf_places hr]
    · cases h

theorem kd_struct {P : Program} {d : TypeDesc} {r : List (Nat × Nat × Bool)} (h : kdOf P d = .struct r) : ∃ fs, d = .struct fs ∧ fieldsOf P fs.toList = some r := by
  cases d <;> simp only [kdOf] at h <;> try (cases h; done)
  rename_i fs
  split at h
  · rename_i r' hr
    simp only [Kd.struct.injEq] at h
    subst h
    exact ⟨fs, rfl, hr⟩
  · cases h
theorem kd_str {P : Program} {d : TypeDesc} (h : kdOf P d = .str) : d = .string := by
  cases d <;> simp only [kdOf] at h <;> try (cases h; done)
  · rfl
  · split at h <;> cases h
theorem kd_bool {P : Program} {d : TypeDesc} (h : kdOf P d = .bool) : d = .bool := by
  cases d <;> simp only [kdOf] at h <;> try (cases h; done)
  · rfl
  · split at h <;> cases h
theorem kd_int {P : Program} {d : TypeDesc} {k : IntKind} (h : kdOf P d = .int k) : d = .int k := by
  cases d <;> simp only [kdOf] at h <;> try (cases h; done)
  · cases h; rfl
  · split at h <;> cases h

theorem fieldRow_ok {P : Program} {E : Tbl} (hE : E.Ok P) {t f o n : Nat} {b : Bool} (h : fieldRow E t f = some (o, n, b)) :
    ∃ fs fd i d, P.underlying t = some (.struct fs) ∧ fs[f]? = some fd ∧ P.info? fd.type = some i ∧ P.underlying fd.type = some d ∧ fd.offset = o ∧ i.size = n ∧ aggD d = b := by
  unfold fieldRow at h
  split at h
  · rename_i ti hti
    split at h
    · rename_i r hr
      obtain ⟨i0, d0, z0, T⟩ := TI.spec (hE.T t ti hti)
      obtain ⟨fs, hd, hf⟩ := kd_struct (T.kd.symm.trans hr)
      obtain ⟨fd, i, d, h1, h2, h3, h4, h5, h6⟩ := fieldsOf_get hf h
      exact ⟨fs, fd, i, d, by rw [T.und, hd], by simpa using h1, h2, h3, h4, h5, h6⟩
    · cases h
  · cases h

theorem run_isAgg {P : Program} {t : TypeId} {d : TypeDesc} (h : P.underlying t = some d) (W : World) : (isAgg t).run P W = .ok (aggD d) W := by
  unfold isAgg
  rw [Sem.run_bind, run_underlying h W]
  cases d <;> rfl
theorem run_sizeOf' {P : Program} {t : TypeId} {i : TypeInfo} (h : P.info? t = some i) (W : World) : (sizeOf t).run P W = .ok i.size W := by
  simp [sizeOf, typeInfo, h]

theorem run_part {P : Program} {t : TypeId} {i : TypeInfo} {d : TypeDesc} (hi : P.info? t = some i) (hd : P.underlying t = some d) {vs : List Value} {off : Nat} {u : Value}
    (h : if aggD d then (off + i.size ≤ vs.length ∧ u = .agg ((vs.drop off).take i.size).toArray) else vs[off]? = some u) (W : World) : (part t vs.toArray off).run P W = .ok u W := by
  unfold part
  rw [Sem.run_bind, run_isAgg hd W, Result.andThen_ok]
  cases ha : aggD d with
  | true =>
    rw [ha] at h
    simp only [if_true] at h ⊢
    rw [Sem.run_bind, run_sizeOf' hi W, Result.andThen_ok, h.2]
    simp only [Sem.run_pure, Result.ok.injEq, Value.agg.injEq, and_true]
    apply Array.ext'
    simp [List.extract_eq_take_drop]
  | false =>
    rw [ha] at h
    simp only [Bool.false_eq_true, if_false] at h ⊢
    have : vs.toArray[off]? = some u := by simpa using h
    rw [this]
    rfl

theorem run_loadVar {P : Program} {t : TypeId} {i : TypeInfo} {d : TypeDesc} (hi : P.info? t = some i) (hd : P.underlying t = some d) {vs : List Value} {off b : Nat} {ty : TypeId} {u : Value} {W : World}
    (hW : W.heap[b]? = some (.cells vs.toArray ty (0, 0)))
    (h : if aggD d then (off + i.size ≤ vs.length ∧ u = .agg ((vs.drop off).take i.size).toArray) else vs[off]? = some u) : (loadVar t ⟨b, off, none⟩).run P W = .ok u W := by
  cases ha : aggD d with
  | true =>
    rw [ha] at h
    simp only [if_true] at h
    rw [h.2]
    refine run_loadVar_mid W b off t _ d (fun j v hv => ?_) hd (by cases d <;> first | rfl | cases ha) (by simp [hi]; omega)
    rw [cell_of_row W b (off + j) _ ty (0, 0) hW]
    simp only [List.getElem?_take, List.getElem?_drop] at hv
    split at hv
    · simpa using hv
    · cases hv
  | false =>
    rw [ha] at h
    simp only [Bool.false_eq_true, if_false] at h
    unfold loadVar
    rw [Sem.run_bind, run_isAgg hd W, Result.andThen_ok, ha]
    simp only [Bool.false_eq_true, if_false, run_load]
    rw [cell_of_row W b off _ ty (0, 0) hW]
    have : vs.toArray[off]? = some u := by simpa using h
    rw [this]

theorem PR.ag_gives {ρ : List Pl} {P : Program} {S : World → Prop} {m : Sem Value} {cs : List CV} {vs : List Value} (h : IsL ρ cs vs) (b : Bool) (off size : Nat)
    (hm : ∀ u, (if b then (off + size ≤ vs.length ∧ u = .agg ((vs.drop off).take size).toArray) else vs[off]? = some u) → ∀ W, S W → m.run P W = .ok u W) : (ag b cs off size).gives ρ P S m := by
  have := ag_ok h b off size
  split at this
  · rename_i v hv
    obtain ⟨u, h1, h2⟩ := this
    rw [hv]
    exact ⟨u, h1, hm u h2⟩
  · rename_i hv
    rw [hv]; exact trivial
  · cases this

theorem bnd_ok {ρ : List Pl} {e : Operand → SV} {a : Operand → Value} (he : ∀ x, (e x).is ρ (a x)) {d : Int} {lo : Option Operand} {n : Int} (h : bnd d (lo.map e) = some n) :
    (lo = none ∧ n = d) ∨ (∃ x k, lo = some x ∧ a x = .int k n) := by
  cases lo with
  | none => simp [bnd] at h; exact Or.inl ⟨rfl, h.symm⟩
  | some x =>
    right
    simp only [Option.map_some] at h
    have hx := he x
    cases hv : e x with
    | c y =>
      rw [hv] at h hx
      cases y <;> simp [bnd] at h
      subst h
      have hx' : some (Value.int _ _) = some (a x) := hx
      exact ⟨x, _, rfl, (Option.some.inj hx').symm⟩
    | _ => rw [hv] at h; simp [bnd] at h
end Go.Proofs.Ytcgoaicifjndpaa.Vx
end
