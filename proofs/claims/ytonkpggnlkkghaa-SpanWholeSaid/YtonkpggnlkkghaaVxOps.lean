/- The walker's operations that only compute or read. -/
import Derived.Test.YtonkpggnlkkghaaVx
import Derived.IntWalk
namespace Go.Proofs.Ytonkpggnlkkghaa.Vx
open Go.RowKit
set_option linter.unusedVariables false
set_option linter.unusedSimpArgs false

/-- Arithmetic, kept closed while the walker runs. -/
structure Arith where
  fit : IntKind → Int → Prop
  add : Int → Int → Int
  sub : Int → Int → Int
  mul : Int → Int → Int
  wrap : IntKind → Int → Int
  lt : Int → Int → Bool
  le : Int → Int → Bool
  eq : Int → Int → Bool
  not : Bool → Bool
  and : Bool → Bool → Bool
  eqB : Bool → Bool → Bool
  nz : Int → Prop
  nneg : Int → Prop
  quo : Int → Int → Int
  rem : Int → Int → Int
  bits : BinOp → IntKind → Int → Int → Int
  shl : IntKind → Int → Int → Int
  shr : IntKind → Int → Int → Int
  eqS : List UInt8 → List UInt8 → Bool
  ltS : List UInt8 → List UInt8 → Bool
  app : List UInt8 → List UInt8 → List UInt8
  fitS : List UInt8 → List UInt8 → Prop
  len : List UInt8 → Int
  inS : Int → List UInt8 → Prop
  at_ : List UInt8 → Int → Int
  inSl : Int → Int → List UInt8 → Prop
  sub_ : List UInt8 → Int → Int → List UInt8
  inN : Int → Nat → Prop
  natOf : Int → Nat
  natI : Nat → Int
  fitL : List UInt8 → List UInt8 → Prop
  byte : Int → UInt8
  isByte : Int → Prop
  ltN : Nat → Nat → Prop
  fitR : Nat → Nat → Prop
  fitV : Nat → Nat → Nat → Prop
  lenG : Nat → (Nat → List CV) → Nat → Prop
  sel : Nat → List Int → Int
  upd : Nat → Nat → Int → Int → Int
  byteAt : List UInt8 → Nat → Int
  leL : Nat → List UInt8 → Prop
  addN : Nat → Nat → Nat
  subI : Int → Int → Nat
  inSlN : Int → Int → Nat → Prop
  cutOk : Int → Nat → Prop
  maxI : Int → Int → Int
  minI : Int → Int → Int
  bytesOk : List Int → Prop
  setB : List UInt8 → Nat → Int → List UInt8

def fitStd : IntKind → Int → Prop
  | .i64, x => -9223372036854775808 ≤ x ∧ x ≤ 9223372036854775807
  | k, x => k.wrap x = x

theorem fitStd_wrap {k : IntKind} {x : Int} (h : fitStd k x) : k.wrap x = x := by
  cases k <;> simp only [fitStd] at h <;> try exact h
  exact IntWalk.i64_in _ h

def bitsStd (op : BinOp) (k : IntKind) (x y : Int) : Int :=
  let a := BitVec.ofInt k.bits x
  let b := BitVec.ofInt k.bits y
  match op with
  | .and => k.wrap (a &&& b).toNat
  | .or => k.wrap (a ||| b).toNat
  | .xor => k.wrap (a ^^^ b).toNat
  | .andNot => k.wrap (a &&& ~~~b).toNat
  | _ => 0

def Arith.std : Arith where
  fit := fitStd
  add a b := a + b
  sub a b := a - b
  mul a b := a * b
  wrap := IntKind.wrap
  lt a b := decide (a < b)
  le a b := decide (a ≤ b)
  eq a b := decide (a = b)
  not b := !b
  and a b := a && b
  eqB a b := a == b
  nz a := a ≠ 0
  nneg a := 0 ≤ a
  quo a b := a.tdiv b
  rem a b := a.tmod b
  bits := bitsStd
  shl k a b := k.wrap (a * 2 ^ (min b.toNat k.bits))
  shr k a b := a.fdiv (2 ^ (min b.toNat k.bits))
  eqS l m := decide (l = m)
  ltS l m := Op.bytesLess l m
  app l m := l ++ m
  fitS l m := (l.length : Int) + m.length ≤ 9223372036854775807
  len l := (l.length : Int)
  inS i l := 0 ≤ i ∧ i < (l.length : Int)
  at_ l i := ((l.getD i.toNat 0).toNat : Int)
  inSl lo hi l := 0 ≤ lo ∧ lo ≤ hi ∧ hi ≤ (l.length : Int)
  sub_ l lo hi := (l.take hi.toNat).drop lo.toNat
  inN i n := 0 ≤ i ∧ i < (n : Int)
  natOf i := i.toNat
  natI n := (n : Int)
  fitL l m := l.length + m.length ≤ 140737488355328
  byte n := UInt8.ofNat n.toNat
  isByte n := 0 ≤ n ∧ n < 256
  ltN i n := i < n
  fitR n b := n + 1 ≤ maxLen ∧ (n + 1) * b ≤ 140737488355328
  fitV n m b := n + m ≤ maxLen ∧ (n + m) * b ≤ 140737488355328
  lenG m g sz := ∀ i, i < m → (g i).length = sz
  sel i es := es.getD i 0
  upd i j v e := if i = j then v else e
  byteAt l i := byteN l i
  leL n l := n ≤ l.length
  addN a b := a + b
  subI a b := (a - b).toNat
  inSlN lo hi n := 0 ≤ lo ∧ lo ≤ hi ∧ hi ≤ (n : Int)
  cutOk a n := a = 0 ∨ a < (n : Int)
  maxI a b := max a b
  minI a b := min a b
  bytesOk l := ∀ n ∈ l, 0 ≤ n ∧ n < 256
  setB l i n := l.set i (UInt8.ofNat n.toNat)

inductive Kd where
  | bool | int (k : IntKind) | str | slice (e : TypeId) | array (n : Nat) (e : TypeId) | struct (fs : List (Nat × Nat × Bool)) | ptr (e : TypeId) | other

structure TI where
  size : Nat
  agg : Bool
  zero : List CV
  kd : Kd
  bytes : Nat

def CV.ofV : Value → CV
  | .bool true => .tt
  | .bool false => .ff
  | .int k n => .int k n
  | .string s => .str s.data.toList
  | v => .val v

theorem CV.den_ofV {ρ : List Pl} {v : Value} (h : one v = true) : (CV.ofV v).den ρ = some v := by
  cases v with
  | bool b => cases b <;> rfl
  | agg cs => cases h
  | tuple cs => cases h
  | _ => first | rfl | (simp [CV.ofV, CV.den, one])

def aggD : TypeDesc → Bool
  | .struct _ | .array _ _ => true
  | _ => false

def fieldsOf (P : Program) : List Field → Option (List (Nat × Nat × Bool))
  | [] => some []
  | f :: fs =>
    match P.info? f.type, P.underlying f.type, fieldsOf P fs with
    | some i, some d, some r => some ((f.offset, i.size, aggD d) :: r)
    | _, _, _ => none

def kdOf (P : Program) : TypeDesc → Kd
  | .bool => .bool
  | .int k => .int k
  | .string => .str
  | .slice e => .slice e
  | .array n e => .array n e
  | .pointer e => .ptr e
  | .struct fs => match fieldsOf P fs.toList with
    | some r => .struct r
    | none => .other
  | _ => .other

def TI.of (P : Program) (t : TypeId) : Option TI :=
  match P.info? t, P.underlying t with
  | some i, some d =>
    match i.zero with
    | some z => if (z.cells.toList.all one && z.cells.size == i.size) && (aggD d || one z) then some ⟨i.size, aggD d, z.cells.toList.map CV.ofV, kdOf P d, i.bytes⟩ else none
    | none => none
  | _, _ => none

def look : List (Nat × TI) → Nat → Option TI
  | [], _ => none
  | (u, i) :: r, t => if u == t then some i else look r t

def TblOk (P : Program) (T : List (Nat × TI)) : Prop := ∀ t i, look T t = some i → TI.of P t = some i

theorem TblOk.nil (P : Program) : TblOk P [] := fun t i h => by cases h
theorem TblOk.cons {P : Program} {t : Nat} {i : TI} {T : List (Nat × TI)} (h : TI.of P t = some i) (k : TblOk P T) : TblOk P ((t, i) :: T) := fun u j hu => by
  unfold look at hu
  by_cases e : t = u
  · subst e; simp at hu; rw [h, hu]
  · simp [e] at hu; exact k u j hu

structure TIs (P : Program) (t : TypeId) (ti : TI) (i : TypeInfo) (d : TypeDesc) (z : Value) : Prop where
  info : P.info? t = some i
  und : P.underlying t = some d
  zero : i.zero = some z
  size : i.size = ti.size
  agg : ti.agg = aggD d
  zs : ti.zero = z.cells.toList.map CV.ofV
  ones : z.cells.toList.all one = true
  zsize : z.cells.size = ti.size
  kd : ti.kd = kdOf P d
  bytes : i.bytes = ti.bytes
  zone : aggD d = false → one z = true

theorem TI.spec {P : Program} {t : TypeId} {ti : TI} (h : TI.of P t = some ti) : ∃ i d z, TIs P t ti i d z := by
  unfold TI.of at h
  split at h
  · rename_i i d hi hd
    split at h
    · rename_i z hz
      split at h
      · rename_i hc
        simp only [Bool.and_eq_true, beq_iff_eq, Bool.or_eq_true] at hc
        cases h
        exact ⟨i, d, z, hi, hd, hz, rfl, rfl, rfl, hc.1.1, hc.1.2, rfl, rfl, fun ha => hc.2.resolve_left (by rw [ha]; simp)⟩
      · cases h
    · cases h
  · cases h

theorem isL_ofV {ρ : List Pl} {l : List Value} (h : l.all one = true) : IsL ρ (l.map CV.ofV) l := by
  induction l with
  | nil => exact IsL.nil ρ
  | cons v l ih =>
    simp only [List.all_cons, Bool.and_eq_true] at h
    exact IsL.cons (CV.den_ofV h.1) (ih h.2)

def SV.ofV : Value → SV
  | .agg cs => if cs.toList.all one then .agg (cs.toList.map CV.ofV) else .any
  | .tuple _ => .any
  | v => .c (CV.ofV v)

theorem SV.is_ofV {ρ : List Pl} (v : Value) : (SV.ofV v).is ρ v := by
  cases v with
  | agg cs =>
    unfold SV.ofV
    by_cases h : cs.toList.all one = true
    · simp only [h, if_true]
      exact ⟨cs.toList, isL_ofV h, by simp⟩
    · simp only [h]; exact trivial
  | tuple vs => exact trivial
  | _ => exact CV.den_ofV rfl

def ev (t : List SV) : Operand → SV
  | .tmp i => t.getD i .und
  | .const v => SV.ofV v
  | .global g => .c (.val (.pointer (some ⟨g, 0, none⟩)))
  | .func f => .any

theorem ev_is {ρ : List Pl} {t : List SV} {a : Act} (h : IsS ρ t a.tmps.toList) (x : Operand) : (ev t x).is ρ (a.eval x) := by
  cases x with
  | tmp i =>
    have := h.get i
    simpa [ev, Act.eval, Array.getD_eq_getD_getElem?, List.getD_eq_getElem?_getD] using this
  | const v => exact SV.is_ofV v
  | global g => exact rfl
  | func f => exact trivial

/-- What an operation that only computes or reads comes to. -/
inductive PR where
  | ok (v : SV) | okp (pre : Prop) (v : SV) | split (b : Bool) (x y : SV) | okps (pre : Prop) (b : Bool) (x y : SV) | no

/-- It comes to the value u, in every world of W. -/
def PR.gives (ρ : List Pl) (P : Program) (S : World → Prop) (m : Sem Value) : PR → Prop
  | .ok v => ∃ u, v.is ρ u ∧ ∀ W, S W → m.run P W = .ok u W
  | .okp pre v => pre → ∃ u, v.is ρ u ∧ ∀ W, S W → m.run P W = .ok u W
  | .split b x y => ∃ u, (if b then x else y).is ρ u ∧ ∀ W, S W → m.run P W = .ok u W
  | .okps pre b x y => pre → ∃ u, (if b then x else y).is ρ u ∧ ∀ W, S W → m.run P W = .ok u W
  | .no => True

def binI (A : Arith) (op : BinOp) (k : IntKind) (a b : Int) : PR :=
  match op with
  | .add => if k.signed then .okp (A.fit k (A.add a b)) (.c (.int k (A.add a b))) else .ok (.c (.int k (A.wrap k (A.add a b))))
  | .sub => if k.signed then .okp (A.fit k (A.sub a b)) (.c (.int k (A.sub a b))) else .ok (.c (.int k (A.wrap k (A.sub a b))))
  | .mul => if k.signed then .okp (A.fit k (A.mul a b)) (.c (.int k (A.mul a b))) else .ok (.c (.int k (A.wrap k (A.mul a b))))
  | .quo => .okp (A.nz b) (.c (.int k (A.wrap k (A.quo a b))))
  | .rem => .okp (A.nz b) (.c (.int k (A.rem a b)))
  | .and => .ok (.c (.int k (A.bits .and k a b)))
  | .or => .ok (.c (.int k (A.bits .or k a b)))
  | .xor => .ok (.c (.int k (A.bits .xor k a b)))
  | .andNot => .ok (.c (.int k (A.bits .andNot k a b)))
  | .eql => .ok (.c (.bool (A.eq a b)))
  | .neq => .ok (.c (.bool (A.not (A.eq a b))))
  | .lss => .ok (.c (.bool (A.lt a b)))
  | .leq => .ok (.c (.bool (A.le a b)))
  | .gtr => .ok (.c (.bool (A.lt b a)))
  | .geq => .ok (.c (.bool (A.le b a)))
  | _ => .no

def binS (A : Arith) (op : BinOp) (l m : List UInt8) : PR :=
  match op with
  | .add => .okp (A.fitS l m) (.c (.str (A.app l m)))
  | .eql => .ok (.c (.bool (A.eqS l m)))
  | .neq => .ok (.c (.bool (A.not (A.eqS l m))))
  | .lss => .ok (.c (.bool (A.ltS l m)))
  | .geq => .ok (.c (.bool (A.not (A.ltS l m))))
  | .gtr => .ok (.c (.bool (A.ltS m l)))
  | .leq => .ok (.c (.bool (A.not (A.ltS m l))))
  | _ => .no

theorem PR.of_eq {ρ : List Pl} {P : Program} {S : World → Prop} {m : Sem Value} {v : SV} {u : Value} (h : v.is ρ u) (hr : ∀ W, m.run P W = .ok u W) : (PR.ok v).gives ρ P S m := ⟨u, h, fun W _ => hr W⟩

theorem bytesLess_total : ∀ l m : List UInt8, Op.bytesLess m l = !(Op.bytesLess l m || l == m)
  | [], [] => rfl
  | [], _ :: _ => rfl
  | _ :: _, [] => rfl
  | a :: x, b :: y => by
    simp only [Op.bytesLess]
    have ih := bytesLess_total x y
    rw [ih]
    by_cases h1 : a < b
    · have h2 : ¬ b < a := fun h => by have := UInt8.lt_irrefl a (UInt8.lt_trans h1 h); exact this
      have h3 : ¬ b = a := fun h => by subst h; exact UInt8.lt_irrefl _ h1
      simp [h1, h2, h3]
    · by_cases h2 : b < a
      · have h3 : ¬ a = b := fun h => by subst h; exact UInt8.lt_irrefl _ h2
        simp [h1, h2, h3]
      · have h3 : a = b := UInt8.le_antisymm (UInt8.not_lt.1 h2) (UInt8.not_lt.1 h1)
        subst h3
        simp [UInt8.lt_irrefl]

theorem toList_mk (l : List UInt8) : (ByteArray.mk l.toArray).toList = l := by
  simp

theorem binI_ok {ρ : List Pl} {P : Program} {S : World → Prop} {t : TypeId} (op : BinOp) (k : IntKind) (a b : Int) : (binI .std op k a b).gives ρ P S (binOp op t (.int k a) (.int k b)) := by
  cases op <;> simp only [binI] <;> try exact trivial
  case add | sub | mul =>
    split
    · intro hp
      refine ⟨_, rfl, fun W _ => ?_⟩
      have := fitStd_wrap hp
      simp [Arith.std] at this
      simp [binOp, Op.intArith, Arith.std, this]
    · refine ⟨_, rfl, fun W _ => ?_⟩
      simp [binOp, Op.intArith, Arith.std]
  case quo | rem =>
    intro hp
    have h0 : ¬ b = 0 := hp
    refine ⟨_, rfl, fun W _ => ?_⟩
    simp [binOp, Op.intDiv, Arith.std, h0]
  case and | or | xor | andNot =>
    refine ⟨_, rfl, fun W _ => ?_⟩
    simp [binOp, Op.intBits, Arith.std, bitsStd]
  case lss | leq | gtr | geq =>
    refine ⟨_, rfl, fun W _ => ?_⟩
    simp [binOp, Op.intCmp, Arith.std]
  case eql | neq =>
    refine ⟨_, rfl, fun W _ => ?_⟩
    by_cases h : a = b <;> simp [binOp, Op.intCmp, Arith.std, h]

theorem binS_ok {ρ : List Pl} {P : Program} {S : World → Prop} {t : TypeId} (op : BinOp) (l m : List UInt8) : (binS .std op l m).gives ρ P S (binOp op t (.string ⟨l.toArray⟩) (.string ⟨m.toArray⟩)) := by
  have hb := bytesLess_total l m
  have hb2 := bytesLess_total m l
  have he : (m == l) = (l == m) := by rw [Bool.eq_iff_iff, beq_iff_eq, beq_iff_eq]; exact ⟨Eq.symm, Eq.symm⟩
  cases op <;> simp only [binS] <;> try exact trivial
  case add =>
    intro hp
    refine ⟨_, rfl, fun W _ => ?_⟩
    have h1 : ¬ ((((⟨l.toArray⟩ : ByteArray).size + (⟨m.toArray⟩ : ByteArray).size : Nat) : Int) > IntKind.i64.max) := by
      have e0 : IntKind.i64.max = 9223372036854775807 := by rfl
      have e1 : (⟨l.toArray⟩ : ByteArray).size = l.length := rfl
      have e2 : (⟨m.toArray⟩ : ByteArray).size = m.length := rfl
      have hp' : (l.length : Int) + m.length ≤ 9223372036854775807 := hp
      rw [e0, e1, e2]
      omega
    have h2 : (⟨l.toArray⟩ : ByteArray) ++ ⟨m.toArray⟩ = ⟨(l ++ m).toArray⟩ := by
      apply ByteArray.ext
      simp [ByteArray.data_append]
    simp only [binOp, Op.stringOp]
    rw [if_neg h1, h2]
    rfl
  all_goals
    refine ⟨_, rfl, fun W _ => ?_⟩
    simp only [binOp, Op.stringOp, toList_mk, Arith.std]
    first
      | (simp; done)
      | (rw [hb]; simp; done)
      | (rw [hb]; simp [Bool.not_not]; done)
      | (by_cases h : l = m <;> simp [h]; done)
end Go.Proofs.Ytonkpggnlkkghaa.Vx
