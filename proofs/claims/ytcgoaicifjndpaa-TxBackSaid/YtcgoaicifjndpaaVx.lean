/- A walker that is a plain function: it carries out a function's text on values that are known in part, and says what is then to be shown. Its soundness stands in the next texts. -/
import Derived.WalkKit
import Derived.WalkSpells
import Derived.WalkLawsBesides
import Derived.BigCall
import Derived.BigFrame
import Derived.Deep.RegionHeld3
import Derived.Laws.AppendOwn
namespace Go.Proofs.Ytcgoaicifjndpaa.Vx
open Go.RowKit
set_option linter.unusedVariables false

def one : Value → Bool
  | .agg _ | .tuple _ => false
  | _ => true

/-- What a cell holds, as far as it is known. -/
inductive CV where
  | tt | ff | bool (b : Bool) | int (k : IntKind) (n : Int) | str (l : List UInt8) | ptr (k off : Nat) | row (k : Nat) | sl (k off len cap : Nat) | eptr (k i sz off : Nat) | aptr (k i off m : Nat) | vsl (k lo n sz : Nat) | val (v : Value)

/-- A byte as a cell holds it. -/
def byteV (c : UInt8) : Value := .int .u8 (c.toNat : Int)

/-- Where an entry lies. -/
structure Pl where
  b : Nat
  v : Value
  o : Nat

/-- A part of a slice, from its element lo on. -/
def subV (v : Value) (lo n sz : Nat) : Option Value := match v with
  | .slice a m cap => if lo + n ≤ m then some (.slice (if cap = lo then a else a.map (·.add (lo * sz))) n (cap - lo)) else none
  | _ => none

def CV.den (ρ : List Pl) : CV → Option Value
  | .tt => some (.bool true)
  | .ff => some (.bool false)
  | .bool b => some (.bool b)
  | .int k n => some (.int k n)
  | .str l => some (.string ⟨l.toArray⟩)
  | .ptr k off => match ρ[k]? with
    | some p => some (.pointer (some ⟨p.b, off, none⟩))
    | none => none
  | .row k => match ρ[k]? with
    | some p => if one p.v then some p.v else none
    | none => none
  | .sl k off len cap => match ρ[k]? with
    | some p => some (.slice (some ⟨p.b, off, none⟩) len cap)
    | none => none
  | .eptr k i sz off => match ρ[k]? with
    | some p => some (.pointer (some ⟨p.b, p.o + i * sz + off, none⟩))
    | none => none
  | .aptr k i off m => match ρ[k]? with
    | some p => some (.pointer (some ⟨p.b, off + i, none⟩))
    | none => none
  | .vsl k lo n sz => match ρ[k]? with
    | some p => subV p.v lo n sz
    | none => none
  | .val v => if one v then some v else none

/-- Cells, as far as they are known. -/
def IsL (ρ : List Pl) (xs : List CV) (vs : List Value) : Prop := xs.map (CV.den ρ) = vs.map some

/-- A value: one cell, an aggregate, several results, nothing, or not known. -/
inductive SV where
  | c (x : CV) | agg (cs : List CV) | tup (vs : List (Option CV × List CV)) | und | any | fn (f : Nat) (cs : List CV)

def Elt (ρ : List Pl) : Option CV × List CV → Value → Prop
  | (some x, _), u => x.den ρ = some u
  | (none, cs), u => ∃ vs, IsL ρ cs vs ∧ u = .agg vs.toArray

def Elts (ρ : List Pl) : List (Option CV × List CV) → List Value → Prop
  | [], us => us = []
  | e :: es, us => ∃ u us', us = u :: us' ∧ Elt ρ e u ∧ Elts ρ es us'

def SV.is (ρ : List Pl) : SV → Value → Prop
  | .c x, u => x.den ρ = some u
  | .agg cs, u => ∃ vs, IsL ρ cs vs ∧ u = .agg vs.toArray
  | .tup vs, u => ∃ us, Elts ρ vs us ∧ u = .tuple us.toArray
  | .und, u => u = undef
  | .any, _ => True
  | .fn f cs, u => ∃ vs, IsL ρ cs vs ∧ u = .func (.func f) #[] vs.toArray

/-- A cell of data that may hold data: a value, or a slice with its elements (e: these hold no slices in turn). fr: made since the call began. -/
inductive Cell where
  | pl (x : CV) | ns (fr : Bool) (ty : TypeId) (sz n : Nat) (get : Nat → Nat → Cell) | es (fr : Bool) (ty : TypeId) (sz n : Nat) (get : Nat → List CV)
/-- What lies in data that were made since the call began was so made, too. -/
def subD (D : Bool → Nat → Prop) : Bool → Bool → Nat → Prop
  | true, _ => D true
  | false, fr => D fr
/-- A value shows what the cell says; D: the blocks that lie still. -/
def Cell.shows (W : World) : Cell → (Bool → Nat → Prop) → Value → Prop
  | .pl x, _, u => x.den [] = some u
  | .ns fr _ sz n get, D, u => ∃ a cap, u = .slice a n cap ∧ n ≤ cap ∧ (0 < n → ∃ b o, a = some ⟨b, o, none⟩ ∧ D fr b ∧ ∀ i j, i < n → j < sz → ∃ v, W.cell? ⟨b, o + i * sz + j, none⟩ = some v ∧ (get i j).shows W (subD D fr) v)
  | .es fr _ sz n get, D, u => ∃ a cap, u = .slice a n cap ∧ n ≤ cap ∧ (0 < n → ∃ b o, a = some ⟨b, o, none⟩ ∧ D fr b ∧ ∀ i, i < n → ∃ vs, IsL [] (get i) vs ∧ ∀ j v, vs[j]? = some v → W.cell? ⟨b, o + i * sz + j, none⟩ = some v)
theorem Cell.shows_mono {W W' : World} : ∀ {c : Cell} {D D' : Bool → Nat → Prop} {u : Value}, (∀ fr b, D fr b → D' fr b ∧ W'.heap[b]? = W.heap[b]?) → c.shows W D u → c.shows W' D' u := by
  intro c
  induction c with
  | pl x => exact fun _ h => h
  | ns fr ty sz n get ih =>
    rintro D D' u hD ⟨a, cap, h1, h2, h3⟩
    refine ⟨a, cap, h1, h2, fun h0 => ?_⟩
    obtain ⟨b, o, h4, h5, h6⟩ := h3 h0
    refine ⟨b, o, h4, (hD fr b h5).1, fun i j hi hj => ?_⟩
    obtain ⟨v, h7, h8⟩ := h6 i j hi hj
    refine ⟨v, (World.cell?_of_block (w := W) (hD fr b h5).2).trans h7, ih i j (fun fr' b' => ?_) h8⟩
    cases fr with
    | true => exact hD true b'
    | false => exact hD fr' b'
  | es fr ty sz n get =>
    rintro D D' u hD ⟨a, cap, h1, h2, h3⟩
    refine ⟨a, cap, h1, h2, fun h0 => ?_⟩
    obtain ⟨b, o, h4, h5, h6⟩ := h3 h0
    refine ⟨b, o, h4, (hD fr b h5).1, fun i hi => ?_⟩
    obtain ⟨vs, h7, h8⟩ := h6 i hi
    exact ⟨vs, h7, fun j v hj => (World.cell?_of_block (w := W) (hD fr b h5).2).trans (h8 j v hj)⟩
/-- Of data made since the call began only the blocks made since count. -/
theorem Cell.shows_fresh {W W' : World} {D D' : Bool → Nat → Prop} {ty : TypeId} {sz n : Nat} {get : Nat → Nat → Cell} {u : Value} (hD : ∀ b, D true b → D' true b ∧ W'.heap[b]? = W.heap[b]?) (h : (Cell.ns true ty sz n get).shows W D u) : (Cell.ns true ty sz n get).shows W' D' u := by
  obtain ⟨a, cap, h1, h2, h3⟩ := h
  refine ⟨a, cap, h1, h2, fun h0 => ?_⟩
  obtain ⟨b, o, h4, h5, h6⟩ := h3 h0
  refine ⟨b, o, h4, (hD b h5).1, fun i j hi hj => ?_⟩
  obtain ⟨v, h7, h8⟩ := h6 i j hi hj
  exact ⟨v, (World.cell?_of_block (w := W) (hD b h5).2).trans h7, Cell.shows_mono (fun _ b' hb => hD b' hb) h8⟩

/-- The same, of no known age. -/
def Cell.old : Cell → Cell
  | .pl x => .pl x
  | .ns _ ty sz n get => .ns false ty sz n fun i j => (get i j).old
  | .es _ ty sz n get => .es false ty sz n get
theorem Cell.shows_old {W W' : World} : ∀ {c : Cell} {D D' : Bool → Nat → Prop} {u : Value}, (∀ fr b, D fr b → D' false b ∧ W'.heap[b]? = W.heap[b]?) → c.shows W D u → c.old.shows W' D' u := by
  intro c
  induction c with
  | pl x => exact fun _ h => h
  | ns fr ty sz n get ih =>
    rintro D D' u hD ⟨a, cap, h1, h2, h3⟩
    refine ⟨a, cap, h1, h2, fun h0 => ?_⟩
    obtain ⟨b, o, h4, h5, h6⟩ := h3 h0
    refine ⟨b, o, h4, (hD fr b h5).1, fun i j hi hj => ?_⟩
    obtain ⟨v, h7, h8⟩ := h6 i j hi hj
    refine ⟨v, (World.cell?_of_block (w := W) (hD fr b h5).2).trans h7, ih i j (fun fr' b' => ?_) h8⟩
    cases fr with
    | true => exact hD true b'
    | false => exact hD fr' b'
  | es fr ty sz n get =>
    rintro D D' u hD ⟨a, cap, h1, h2, h3⟩
    refine ⟨a, cap, h1, h2, fun h0 => ?_⟩
    obtain ⟨b, o, h4, h5, h6⟩ := h3 h0
    refine ⟨b, o, h4, (hD fr b h5).1, fun i hi => ?_⟩
    obtain ⟨vs, h7, h8⟩ := h6 i hi
    exact ⟨vs, h7, fun j v hj => (World.cell?_of_block (w := W) (hD fr b h5).2).trans (h8 j v hj)⟩

/-- Values of the shape of a map's keys: a number, or (gs) a struct's cells: 0 a number, 1 a string, 2 a bool. -/
def shKs : List Nat → List Value → Prop
  | [], [] => True
  | 0 :: gs, .int .i64 _ :: vs => shKs gs vs
  | 1 :: gs, .string _ :: vs => shKs gs vs
  | 2 :: gs, .bool _ :: vs => shKs gs vs
  | _, _ => False
def keySh : List Nat → Value → Prop
  | [], v => ∃ n, v = .int .i64 n
  | g :: gs, v => ∃ vs : List Value, v = .agg vs.toArray ∧ shKs (g :: gs) vs
/-- A map's entries: keys of one shape, numbers as values. -/
def MapAt (W : World) (b : Nat) (gs : List Nat) (l : List (Value × Int)) : Prop := ∃ es clock, W.heap[b]? = some (.map es clock) ∧ es.toList.map (fun e => (e.key, e.val)) = l.map (fun q => (q.1, Value.int .i64 q.2)) ∧ ∀ q ∈ l, keySh gs q.1
/-- What a map's records are: the shapes of its keys, the kinds of a record's numbers; behind these there is a pointer to a block of type T that holds one slice of elements e of size sz. -/
structure MTy where
  gs : List Nat
  ks : List IntKind
  T : Nat
  e : Nat
  sz : Nat
/-- A record: its numbers, and the elements of its slice. -/
structure MRec where
  num : Nat → Int
  n : Nat
  get : Nat → List CV
def numsV : List IntKind → (Nat → Int) → Nat → List Value
  | [], _, _ => []
  | k :: ks, f, i => .int k (f i) :: numsV ks f (i + 1)
def numsC : List IntKind → (Nat → Int) → Nat → List CV
  | [], _, _ => []
  | k :: ks, f, i => .int k (f i) :: numsC ks f (i + 1)
theorem numsC_ok {ρ : List Pl} : ∀ (ks : List IntKind) (f : Nat → Int) (i : Nat), IsL ρ (numsC ks f i) (numsV ks f i)
  | [], _, _ => rfl
  | k :: ks, f, i => by
    have h := numsC_ok (ρ := ρ) ks f (i + 1)
    simp only [IsL, numsC, numsV, List.map_cons, List.cons.injEq]
    exact ⟨rfl, h⟩
/-- A value shows a record; what the pointer leads to lies still. -/
def MRec.shows (W : World) (D : Bool → Nat → Prop) (t : MTy) (r : MRec) (v : Value) : Prop := ∃ b sv, v = .agg (numsV t.ks r.num 0 ++ [Value.pointer (some ⟨b, 0, none⟩)]).toArray ∧ D false b ∧ W.heap[b]? = some (.cells #[sv] t.T (0, 0)) ∧ (Cell.es false t.e t.sz r.n r.get).shows W D sv
theorem MRec.shows_mono {W W' : World} {D D' : Bool → Nat → Prop} {t : MTy} {r : MRec} {v : Value} (hD : ∀ b, D false b → D' false b ∧ W'.heap[b]? = W.heap[b]?) (h : r.shows W D t v) : r.shows W' D' t v := by
  obtain ⟨b, sv, h1, h2, h3, a, cap, h4, h5, h6⟩ := h
  refine ⟨b, sv, h1, (hD b h2).1, (hD b h2).2.trans h3, a, cap, h4, h5, fun h0 => ?_⟩
  obtain ⟨b', o, h7, h8, h9⟩ := h6 h0
  refine ⟨b', o, h7, (hD b' h8).1, fun i hi => ?_⟩
  obtain ⟨vs, h10, h11⟩ := h9 i hi
  exact ⟨vs, h10, fun j v hj => (World.cell?_of_block (w := W) (hD b' h8).2).trans (h11 j v hj)⟩
def recsShow (W : World) (D : Bool → Nat → Prop) (t : MTy) : List MapEntry → List (Value × MRec) → Prop
  | [], [] => True
  | e :: es, q :: l => q.2.shows W D t e.val ∧ recsShow W D t es l
  | _, _ => False
theorem recsShow_mono {W W' : World} {D D' : Bool → Nat → Prop} {t : MTy} (hD : ∀ b, D false b → D' false b ∧ W'.heap[b]? = W.heap[b]?) : ∀ {es : List MapEntry} {l : List (Value × MRec)}, recsShow W D t es l → recsShow W' D' t es l
  | [], [], _ => trivial
  | e :: es, q :: l, h => ⟨MRec.shows_mono hD h.1, recsShow_mono hD h.2⟩
  | [], _ :: _, h => h.elim
  | _ :: _, [], h => h.elim
/-- A map's entries: keys of one shape, records as values. -/
def MapQ (W : World) (b : Nat) (gs : List Nat) (l : List (Value × MRec)) : Prop := ∃ es clock, W.heap[b]? = some (.map es clock) ∧ es.toList.map (fun e => e.key) = l.map (fun q => q.1) ∧ ∀ q ∈ l, keySh gs q.1
/-- What is known of memory: entries that are known whole. -/
inductive Ent where
  | data (fr : Bool) (ty : TypeId) (sz n : Nat) (get : Nat → Nat → Cell) | orow (ty : TypeId) (sz n : Nat) (get : Nat → Nat → Cell) | cells (ty : TypeId) (cs : List CV) | row (e : TypeId) (sz : Nat) (n : Nat) (get : Nat → List CV) | bytes (e : TypeId) (l : List UInt8) | elems (ty : TypeId) (sz n : Nat) (get : Nat → List CV) | glob (g sz n : Nat) (get : Nat → List CV) | dead | mp (gs : List Nat) (l : List (Value × Int)) | mq (t : MTy) (l : List (Value × MRec))

/-- A row of bytes of its own; behind its cells there may be a mark. -/
def BytesAt (W : World) (e : TypeId) (v : Value) (l : List UInt8) : Prop :=
  (v = .slice none 0 0 ∧ l = []) ∨ ∃ g cap cur fz, v = .slice (some ⟨g, 0, none⟩) l.length cap ∧ W.heap[g]? = some (.cells cur e fz) ∧ (fz.2 = 0 ∨ cap ≤ fz.1) ∧ l.length ≤ cap ∧ cap ≤ maxLen ∧ cur.size = cap ∧ cur.toList.take l.length = l.map byteV
/-- A byte of a row, as a number. -/
def byteN (l : List UInt8) (i : Nat) : Int := ((l.getD i 0).toNat : Int)
/-- How many bytes a row has; the evaluation of the walker does not go into it. -/
noncomputable def byteL : List UInt8 → Nat := Classical.choose (⟨List.length, rfl⟩ : ∃ f : List UInt8 → Nat, f = List.length)
theorem byteL_eq (l : List UInt8) : byteL l = l.length := congrFun (Classical.choose_spec (⟨List.length, rfl⟩ : ∃ f : List UInt8 → Nat, f = List.length)) l

def Ent.ok (ρ : List Pl) (p : Pl) (W : World) : Ent → Prop
  | .cells ty cs => ∃ vs, IsL ρ cs vs ∧ W.heap[p.b]? = some (.cells vs.toArray ty (0, 0))
  | .row e sz n get => ∃ vs, ((∀ i, i < n → IsL [] (get i) ((vs.drop (i * sz)).take sz)) ∧ p.o = 0 ∧ ∀ g, p.v.ownBlock = some g → g = p.b) ∧ W.ownsRow 0 e sz p.v n vs
  | .bytes e l => BytesAt W e p.v l ∧ p.o = 0 ∧ ∀ g, p.v.ownBlock = some g → g = p.b
  | .elems ty sz n get => (∃ a cap, p.v = .slice a n cap ∧ n ≤ cap ∧ (0 < n → a = some ⟨p.b, p.o, none⟩)) ∧ ∀ i, i < n → ∃ vs, IsL [] (get i) vs ∧ ∀ j v, vs[j]? = some v → W.cell? ⟨p.b, p.o + i * sz + j, none⟩ = some v
  | .glob g sz n get => (p.b = g ∧ p.o = 0) ∧ ∀ i, i < n → ∃ vs, IsL [] (get i) vs ∧ ∀ j v, vs[j]? = some v → W.cell? ⟨p.b, p.o + i * sz + j, none⟩ = some v
  | .data _ _ _ n _ => ∃ a cap, p.v = .slice a n cap ∧ n ≤ cap ∧ (0 < n → a = some ⟨p.b, p.o, none⟩)
  | .orow _ _ n _ => (∃ a cap, p.v = .slice a n cap ∧ n ≤ cap ∧ (0 < n → a = some ⟨p.b, p.o, none⟩)) ∧ p.o = 0 ∧ ∀ g, p.v.ownBlock = some g → g = p.b
  | .dead => True
  | .mp gs l => p.v = .map (some p.b) ∧ MapAt W p.b gs l
  | .mq t l => p.v = .map (some p.b) ∧ MapQ W p.b t.gs l

def Ent.fp (p : Pl) : Ent → Option Nat
  | .data .. => none
  | .orow .. => p.v.ownBlock
  | .cells .. => some p.b
  | .row .. => p.v.ownBlock
  | .bytes .. => p.v.ownBlock
  | .elems .. => none
  | .glob .. => none
  | .dead => none
  | .mp .. => some p.b
  | .mq .. => some p.b

/-- The block on which an entry's state hangs. -/
def Ent.dep (p : Pl) : Ent → Option Nat
  | .data .. => none
  | .orow .. => none
  | .cells .. => some p.b
  | .row .. => p.v.ownBlock
  | .bytes .. => p.v.ownBlock
  | .elems _ _ n _ => if 0 < n then some p.b else none
  | .glob _ _ n _ => if 0 < n then some p.b else none
  | .dead => none
  | .mp .. => some p.b
  | .mq .. => some p.b

def Ent.isElems : Ent → Bool
  | .data .. => true
  | .elems .. => true
  | .glob .. => true
  | _ => false

/-- What a call may not hand out. -/
def Ent.stays : Ent → Bool
  | .elems .. => true
  | .glob .. => true
  | .data false .. => true
  | .orow .. => true
  | .mq .. => true
  | _ => false

def fp (ρ : List Pl) (h : List Ent) (k : Nat) : Option Nat :=
  match h[k]?, ρ[k]? with
  | some e, some p => e.fp p
  | _, _ => none

/-- What else is known of entries; D: the blocks that lie still. -/
def Ent.dat (W : World) (D : Bool → Nat → Prop) (p : Pl) : Ent → Prop
  | .elems _ _ n _ => 0 < n → D false p.b
  | .glob _ _ n _ => 0 < n → D false p.b
  | .data fr ty sz n get => (Cell.ns fr ty sz n get).shows W D p.v
  | .orow ty sz n get => ∃ vs, W.ownsRow 0 ty sz p.v n vs ∧ ∀ i j, i < n → j < sz → ∃ v, vs[i * sz + j]? = some v ∧ (get i j).shows W D v
  | .mq t l => ∃ es clock, W.heap[p.b]? = some (.map es clock) ∧ recsShow W D t es.toList l
  | _ => True
/-- The blocks that a call may turn (l); of the others, those of which the caller says that they lie still behind the call, too (o). -/
structure Gs where
  l : List Nat
  o : Nat → Prop
instance : Membership Nat Gs := ⟨fun G b => b ∈ G.l⟩
def Gs.all (l : List Nat) : Gs := ⟨l, fun _ => True⟩
instance : Coe (List Nat) Gs := ⟨Gs.all⟩
@[simp] theorem Gs.mem_all {l : List Nat} {b : Nat} : b ∈ Gs.all l ↔ b ∈ l := Iff.rfl
/-- The blocks that lie still: those of w0 that may not turn; and (of this side) those that no entry may write. -/
def Dom (w0 : World) (G : Gs) (ρ : List Pl) (h : List Ent) (W : World) : Bool → Nat → Prop
  | false, b => (b < w0.heap.size ∧ b ∉ G ∧ G.o b) ∨ ((b ∈ G ∨ w0.heap.size ≤ b) ∧ b < W.heap.size ∧ ∀ j, fp ρ h j ≠ some b)
  | true, b => (b ∈ G ∨ w0.heap.size ≤ b) ∧ b < W.heap.size ∧ ∀ j, fp ρ h j ≠ some b
theorem Dom.weak {w0 : World} {G : Gs} {ρ : List Pl} {h : List Ent} {W : World} {fr : Bool} {b : Nat} (hd : Dom w0 G ρ h W fr b) : Dom w0 G ρ h W false b := by
  cases fr with
  | false => exact hd
  | true => exact Or.inr hd
theorem Ent.dat_mono {W W' : World} {D D' : Bool → Nat → Prop} {p : Pl} {e : Ent} (h : e.dat W D p) (hD : ∀ fr b, D fr b → D' fr b ∧ W'.heap[b]? = W.heap[b]?) (hfp : ∀ b, e.fp p = some b → W'.heap[b]? = W.heap[b]?) : e.dat W' D' p := by
  cases e with
  | data fr ty sz n get => exact Cell.shows_mono (c := .ns fr ty sz n get) hD h
  | orow ty sz n get =>
    obtain ⟨vs, h1, h2⟩ := h
    refine ⟨vs, ⟨h1.1, ?_⟩, fun i j hi hj => ?_⟩
    · rcases h1.2 with h3 | ⟨g, cap, cur, hv, hg, hh, r⟩
      · exact Or.inl h3
      · exact Or.inr ⟨g, cap, cur, hv, hg, (hfp g (by simp [Ent.fp, hv, Value.ownBlock])).trans hh, r⟩
    · obtain ⟨v, h3, h4⟩ := h2 i j hi hj
      exact ⟨v, h3, Cell.shows_mono hD h4⟩
  | elems ty sz n get => exact fun h0 => (hD _ _ (h h0)).1
  | glob g sz n get => exact fun h0 => (hD _ _ (h h0)).1
  | cells ty cs => trivial
  | row e sz n xs => trivial
  | bytes e l => trivial
  | dead => trivial
  | mp gs l => trivial
  | mq t l =>
    obtain ⟨es, ck, h1, h2⟩ := h
    exact ⟨es, ck, (hfp p.b rfl).trans h1, recsShow_mono (fun b hb => hD false b hb) h2⟩
theorem Dom.mono {w0 : World} {G : Gs} {ρ ρ' : List Pl} {h h' : List Ent} {W W' : World} (hs : W.heap.size ≤ W'.heap.size) (hfp : ∀ j b, fp ρ' h' j = some b → (∃ i, fp ρ h i = some b) ∨ W.heap.size ≤ b) : ∀ fr b, Dom w0 G ρ h W fr b → Dom w0 G ρ' h' W' fr b
  | false, b, hd => hd.imp id fun hd => ⟨hd.1, Nat.lt_of_lt_of_le hd.2.1 hs, fun j hj => by
    rcases hfp j b hj with ⟨i, hi⟩ | h1
    · exact hd.2.2 i hi
    · exact absurd hd.2.1 (Nat.not_lt.2 h1)⟩
  | true, b, hd => ⟨hd.1, Nat.lt_of_lt_of_le hd.2.1 hs, fun j hj => by
    rcases hfp j b hj with ⟨i, hi⟩ | h1
    · exact hd.2.2 i hi
    · exact absurd hd.2.1 (Nat.not_lt.2 h1)⟩

/-- The world W, since w0: the entries h lie at the places ρ; of what was there in w0 only the blocks G may have turned. -/
structure Rel (w0 : World) (G : Gs) (ρ : List Pl) (h : List Ent) (W : World) : Prop where
  len : ρ.length = h.length
  ok : ∀ (k : Nat) (e : Ent) (p : Pl), h[k]? = some e → ρ[k]? = some p → e.ok ρ p W
  own : ∀ (k b : Nat), fp ρ h k = some b → b < W.heap.size ∧ (b ∈ G ∨ w0.heap.size ≤ b)
  dis : ∀ (j k b : Nat), fp ρ h j = some b → fp ρ h k = some b → j = k
  kept : ∀ i, i < w0.heap.size → i ∉ G → W.heap[i]? = w0.heap[i]?
  dat : ∀ (k : Nat) (e : Ent) (p : Pl), h[k]? = some e → ρ[k]? = some p → e.dat W (Dom w0 G ρ h W) p
  os : W.os = w0.os
  tape : W.tape = w0.tape
  output : W.output = w0.output
  size : w0.heap.size ≤ W.heap.size

structure St where
  t : List SV
  h : List Ent

def IsS (ρ : List Pl) : List SV → List Value → Prop
  | [], us => us = []
  | e :: es, us => ∃ u us', us = u :: us' ∧ e.is ρ u ∧ IsS ρ es us'

/-! ### Denotations grow with the places -/
theorem CV.den_app {ρ : List Pl} {x : CV} {u : Value} (h : x.den ρ = some u) (r : List Pl) : x.den (ρ ++ r) = some u := by
  have key : ∀ k p, ρ[k]? = some p → (ρ ++ r)[k]? = some p := fun k p hk => by
    rw [List.getElem?_append_left (List.getElem?_eq_some_iff.1 hk).1, hk]
  cases x with
  | ptr k off =>
    simp only [CV.den] at h ⊢
    cases hk : ρ[k]? with
    | none => rw [hk] at h; cases h
    | some p => rw [hk] at h; rw [key k p hk]; exact h
  | row k =>
    simp only [CV.den] at h ⊢
    cases hk : ρ[k]? with
    | none => rw [hk] at h; cases h
    | some p => rw [hk] at h; rw [key k p hk]; exact h
  | sl k off len cap =>
    simp only [CV.den] at h ⊢
    cases hk : ρ[k]? with
    | none => rw [hk] at h; cases h
    | some p => rw [hk] at h; rw [key k p hk]; exact h
  | eptr k i sz off =>
    simp only [CV.den] at h ⊢
    cases hk : ρ[k]? with
    | none => rw [hk] at h; cases h
    | some p => rw [hk] at h; rw [key k p hk]; exact h
  | aptr k i off m =>
    simp only [CV.den] at h ⊢
    cases hk : ρ[k]? with
    | none => rw [hk] at h; cases h
    | some p => rw [hk] at h; rw [key k p hk]; exact h
  | vsl k lo n sz =>
    simp only [CV.den] at h ⊢
    cases hk : ρ[k]? with
    | none => rw [hk] at h; cases h
    | some p => rw [hk] at h; rw [key k p hk]; exact h
  | _ => exact h

theorem IsL.nil (ρ : List Pl) : IsL ρ [] [] := rfl
theorem IsL.cons {ρ : List Pl} {x : CV} {u : Value} {xs : List CV} {us : List Value} (h : x.den ρ = some u) (hs : IsL ρ xs us) : IsL ρ (x :: xs) (u :: us) := by
  unfold IsL at *
  simp [h, hs]
theorem IsL.len {ρ : List Pl} {xs : List CV} {us : List Value} (h : IsL ρ xs us) : xs.length = us.length := by
  have := congrArg List.length h
  simpa using this
theorem IsL.get {ρ : List Pl} {xs : List CV} {us : List Value} (h : IsL ρ xs us) {i : Nat} {x : CV} (hx : xs[i]? = some x) : ∃ u, us[i]? = some u ∧ x.den ρ = some u := by
  have h2 := congrArg (fun l => l[i]?) h
  simp only [List.getElem?_map, hx, Option.map_some] at h2
  cases hu : us[i]? with
  | none => rw [hu] at h2; simp at h2
  | some u => rw [hu] at h2; exact ⟨u, rfl, by simpa using h2⟩
theorem IsL.getr {ρ : List Pl} {xs : List CV} {us : List Value} (h : IsL ρ xs us) {i : Nat} {u : Value} (hu : us[i]? = some u) : ∃ x, xs[i]? = some x ∧ x.den ρ = some u := by
  have h2 := congrArg (fun l => l[i]?) h
  simp only [List.getElem?_map, hu, Option.map_some] at h2
  cases hx : xs[i]? with
  | none => rw [hx] at h2; simp at h2
  | some x => rw [hx] at h2; exact ⟨x, rfl, by simpa using h2⟩
theorem IsL.unique {ρ : List Pl} {xs : List CV} {us vs : List Value} (h : IsL ρ xs us) (k : IsL ρ xs vs) : us = vs := by
  unfold IsL at *
  rw [h] at k
  have : Function.Injective (some : Value → Option Value) := fun a b e => by simpa using e
  exact (List.map_inj_right (fun a b e => by simpa using e)).1 k
theorem IsL.app_ρ {ρ : List Pl} {xs : List CV} {us : List Value} (h : IsL ρ xs us) (r : List Pl) : IsL (ρ ++ r) xs us := by
  induction xs generalizing us with
  | nil => cases us <;> simp [IsL] at h ⊢
  | cons x xs ih =>
    cases us with
    | nil => simp [IsL] at h
    | cons u us =>
      simp only [IsL, List.map_cons, List.cons.injEq] at h
      exact IsL.cons (CV.den_app h.1 r) (ih h.2)
theorem IsL.app {ρ : List Pl} {xs ys : List CV} {us vs : List Value} (h : IsL ρ xs us) (k : IsL ρ ys vs) : IsL ρ (xs ++ ys) (us ++ vs) := by
  unfold IsL at *
  simp [h, k]
theorem IsL.take {ρ : List Pl} {xs : List CV} {us : List Value} (h : IsL ρ xs us) (n : Nat) : IsL ρ (xs.take n) (us.take n) := by
  unfold IsL at *
  rw [List.map_take, List.map_take, h]
theorem IsL.drop {ρ : List Pl} {xs : List CV} {us : List Value} (h : IsL ρ xs us) (n : Nat) : IsL ρ (xs.drop n) (us.drop n) := by
  unfold IsL at *
  rw [List.map_drop, List.map_drop, h]
theorem IsL.set {ρ : List Pl} {xs : List CV} {us : List Value} (h : IsL ρ xs us) (i : Nat) {x : CV} {u : Value} (hx : x.den ρ = some u) : IsL ρ (xs.set i x) (us.set i u) := by
  unfold IsL at *
  rw [List.map_set, List.map_set, h, hx]

theorem CV.den_oneCell {ρ : List Pl} {x : CV} {u : Value} (h : x.den ρ = some u) : one u = true := by
  cases x with
  | ptr k off =>
    simp only [CV.den] at h
    cases hk : ρ[k]? with
    | none => rw [hk] at h; cases h
    | some p => rw [hk] at h; cases h; rfl
  | row k =>
    simp only [CV.den] at h
    cases hk : ρ[k]? with
    | none => rw [hk] at h; cases h
    | some p =>
      rw [hk] at h
      simp only at h
      by_cases ho : one p.v = true
      · rw [if_pos ho] at h; cases h; exact ho
      · rw [if_neg ho] at h; cases h
  | sl k off len cap =>
    simp only [CV.den] at h
    cases hk : ρ[k]? with
    | none => rw [hk] at h; cases h
    | some p => rw [hk] at h; cases h; rfl
  | eptr k i sz off =>
    simp only [CV.den] at h
    cases hk : ρ[k]? with
    | none => rw [hk] at h; cases h
    | some p => rw [hk] at h; cases h; rfl
  | aptr k i off m =>
    simp only [CV.den] at h
    cases hk : ρ[k]? with
    | none => rw [hk] at h; cases h
    | some p => rw [hk] at h; cases h; rfl
  | vsl k lo n sz =>
    simp only [CV.den] at h
    cases hk : ρ[k]? with
    | none => rw [hk] at h; cases h
    | some p =>
      rw [hk] at h
      simp only at h
      unfold subV at h
      split at h
      · split at h
        · cases h; rfl
        · cases h
      · cases h
  | val v =>
    simp only [CV.den] at h
    by_cases ho : one v = true
    · rw [if_pos ho] at h; cases h; exact ho
    · rw [if_neg ho] at h; cases h
  | _ => cases h; rfl

theorem Elt.app_ρ {ρ : List Pl} {e : Option CV × List CV} {u : Value} (h : Elt ρ e u) (r : List Pl) : Elt (ρ ++ r) e u := by
  obtain ⟨_ | x, cs⟩ := e
  · obtain ⟨vs, h1, h2⟩ := h
    exact ⟨vs, h1.app_ρ r, h2⟩
  · exact CV.den_app h r
theorem Elts.app_ρ {ρ : List Pl} {es : List (Option CV × List CV)} {us : List Value} (h : Elts ρ es us) (r : List Pl) : Elts (ρ ++ r) es us := by
  induction es generalizing us with
  | nil => exact h
  | cons e es ih =>
    obtain ⟨u, us', rfl, h1, h2⟩ := h
    exact ⟨u, us', rfl, h1.app_ρ r, ih h2⟩
theorem SV.is_app {ρ : List Pl} {x : SV} {u : Value} (h : x.is ρ u) (r : List Pl) : x.is (ρ ++ r) u := by
  cases x with
  | c x => exact CV.den_app h r
  | agg cs => obtain ⟨vs, h1, h2⟩ := h; exact ⟨vs, h1.app_ρ r, h2⟩
  | tup vs => obtain ⟨us, h1, h2⟩ := h; exact ⟨us, h1.app_ρ r, h2⟩
  | und => exact h
  | any => trivial
  | fn f cs => obtain ⟨vs, h1, h2⟩ := h; exact ⟨vs, h1.app_ρ r, h2⟩
theorem IsS.app_ρ {ρ : List Pl} {xs : List SV} {us : List Value} (h : IsS ρ xs us) (r : List Pl) : IsS (ρ ++ r) xs us := by
  induction xs generalizing us with
  | nil => exact h
  | cons e es ih =>
    obtain ⟨u, us', rfl, h1, h2⟩ := h
    exact ⟨u, us', rfl, SV.is_app h1 r, ih h2⟩
theorem IsS.len {ρ : List Pl} : ∀ {xs : List SV} {us : List Value}, IsS ρ xs us → xs.length = us.length
  | [], us, h => by cases h; rfl
  | x :: xs, us, h => by
    obtain ⟨u, us', rfl, h1, h2⟩ := h
    simp [IsS.len h2]
theorem IsS.get {ρ : List Pl} : ∀ {xs : List SV} {us : List Value}, IsS ρ xs us → ∀ i : Nat, (xs.getD i .und).is ρ (us.getD i undef)
  | [], us, h, i => by cases h; exact rfl
  | x :: xs, us, h, 0 => by
    obtain ⟨u, us', rfl, h1, h2⟩ := h
    exact h1
  | x :: xs, us, h, i + 1 => by
    obtain ⟨u, us', rfl, h1, h2⟩ := h
    simpa using IsS.get h2 i
theorem IsS.set {ρ : List Pl} : ∀ {xs : List SV} {us : List Value}, IsS ρ xs us → ∀ (i : Nat) {y : SV} {v : Value}, y.is ρ v → IsS ρ (xs.set i y) (us.set i v)
  | [], us, h, i, y, v, hy => by cases h; exact rfl
  | x :: xs, us, h, 0, y, v, hy => by
    obtain ⟨u, us', rfl, h1, h2⟩ := h
    exact ⟨v, us', rfl, hy, h2⟩
  | x :: xs, us, h, i + 1, y, v, hy => by
    obtain ⟨u, us', rfl, h1, h2⟩ := h
    exact ⟨u, us'.set i v, rfl, h1, IsS.set h2 i hy⟩
theorem IsS.append {ρ : List Pl} : ∀ {xs ys : List SV} {us vs : List Value}, IsS ρ xs us → IsS ρ ys vs → IsS ρ (xs ++ ys) (us ++ vs)
  | [], ys, us, vs, h, k => by cases h; exact k
  | x :: xs, ys, us, vs, h, k => by
    obtain ⟨u, us', rfl, h1, h2⟩ := h
    exact ⟨u, us' ++ vs, rfl, h1, IsS.append h2 k⟩
theorem IsS.undefs {ρ : List Pl} : ∀ n : Nat, IsS ρ (List.replicate n .und) (List.replicate n undef)
  | 0 => rfl
  | n + 1 => ⟨undef, List.replicate n undef, rfl, rfl, IsS.undefs n⟩

/-! ### Memory -/
theorem Ent.ok_app {ρ : List Pl} {e : Ent} {p : Pl} {W : World} (h : e.ok ρ p W) (r : List Pl) : e.ok (ρ ++ r) p W := by
  cases e with
  | cells ty cs => obtain ⟨vs, h1, h2⟩ := h; exact ⟨vs, h1.app_ρ r, h2⟩
  | row e sz n xs => exact h
  | bytes e l => exact h
  | elems ty sz n get => exact h
  | glob g sz n get => exact h
  | data fr ty sz n get => exact h
  | orow ty sz n get => exact h
  | dead => trivial
  | mp gs l => exact h
  | mq t l => exact h

/-- An entry's state hangs on its own block alone. -/
theorem Ent.ok_of_block {ρ : List Pl} {e : Ent} {p : Pl} {W W' : World} (h : e.ok ρ p W) (hb : ∀ b, e.dep p = some b → W'.heap[b]? = W.heap[b]?) : e.ok ρ p W' := by
  cases e with
  | cells ty cs => obtain ⟨vs, h1, h2⟩ := h; exact ⟨vs, h1, (hb _ rfl).trans h2⟩
  | row e sz n xs =>
    obtain ⟨vs, h1, h2, h3⟩ := h
    refine ⟨vs, h1, h2, ?_⟩
    rcases h3 with h3 | ⟨g, cap, cur, hv, hg, hh, r⟩
    · exact Or.inl h3
    · exact Or.inr ⟨g, cap, cur, hv, hg, (hb g (by simp [Ent.dep, hv, Value.ownBlock])).trans hh, r⟩
  | bytes e l =>
    obtain ⟨h2, h3⟩ := h
    refine ⟨?_, h3⟩
    rcases h2 with h2 | ⟨g, cap, cur, fz, hv, hh, r⟩
    · exact Or.inl h2
    · exact Or.inr ⟨g, cap, cur, fz, hv, (hb g (by simp [Ent.dep, hv, Value.ownBlock])).trans hh, r⟩
  | elems ty sz n get =>
    refine ⟨h.1, fun i hi => ?_⟩
    obtain ⟨vs, h1, h2⟩ := h.2 i hi
    exact ⟨vs, h1, fun j v hv => (World.cell?_of_block (w := W) (hb p.b (by simp only [Ent.dep]; rw [if_pos (by omega)]))).trans (h2 j v hv)⟩
  | glob g sz n get =>
    refine ⟨h.1, fun i hi => ?_⟩
    obtain ⟨vs, h1, h2⟩ := h.2 i hi
    exact ⟨vs, h1, fun j v hv => (World.cell?_of_block (w := W) (hb p.b (by simp only [Ent.dep]; rw [if_pos (by omega)]))).trans (h2 j v hv)⟩
  | data fr ty sz n get => exact h
  | orow ty sz n get => exact h
  | dead => trivial
  | mp gs l =>
    obtain ⟨h1, es, ck, h2, h3⟩ := h
    exact ⟨h1, es, ck, (hb _ rfl).trans h2, h3⟩
  | mq t l =>
    obtain ⟨h1, es, ck, h2, h3⟩ := h
    exact ⟨h1, es, ck, (hb _ rfl).trans h2, h3⟩

/-! ### Values without a place -/
def CV.pf : CV → Bool
  | .ptr .. | .row .. | .sl .. | .eptr .. | .aptr .. | .vsl .. => false
  | _ => true
def pfs : List CV → Bool
  | [] => true
  | x :: xs => x.pf && pfs xs
theorem CV.den_pf {x : CV} (h : x.pf = true) (ρ ρ' : List Pl) : x.den ρ = x.den ρ' := by
  cases x <;> first | rfl | cases h
theorem isL_pf {xs : List CV} (h : pfs xs = true) {ρ : List Pl} {us : List Value} (k : IsL ρ xs us) (ρ' : List Pl) : IsL ρ' xs us := by
  induction xs generalizing us with
  | nil => exact k
  | cons x xs ih =>
    simp only [pfs, Bool.and_eq_true] at h
    cases us with
    | nil => simp [IsL] at k
    | cons u us =>
      simp only [IsL, List.map_cons, List.cons.injEq] at k
      exact IsL.cons ((CV.den_pf h.1 ρ' ρ).trans k.1) (ih h.2 k.2)
/-- A row of elements, its own or one that is only read. -/
noncomputable def Ent.view : Ent → Option (Nat × Nat × (Nat → List CV))
  | .elems _ sz n get => some (sz, n, get)
  | .row _ sz n get => some (sz, n, get)
  | .bytes _ l => some (1, byteL l, fun i => [.int .u8 (byteN l i)])
  | _ => none
theorem BytesAt.cell {W : World} {e : TypeId} {v : Value} {l : List UInt8} (h : BytesAt W e v l) {g : Nat} (hg : v.ownBlock = some g) (i : Nat) (hi : i < l.length) : W.cell? ⟨g, i, none⟩ = some (byteV (l.getD i 0)) := by
  rcases h with ⟨rfl, _⟩ | ⟨g', cap, cur, fz, rfl, hh, _, hl, _, hs, ht⟩
  · simp [Value.ownBlock] at hg
  · simp [Value.ownBlock] at hg
    subst hg
    rw [cell_of_row W g' i cur e fz hh]
    have := congrArg (fun x => x[i]?) ht
    simp only [List.getElem?_take, if_pos hi, List.getElem?_map, List.getElem?_eq_getElem hi, Option.map_some] at this
    rw [List.getD_eq_getElem?_getD, List.getElem?_eq_getElem hi, Option.getD_some]
    simpa using this
theorem BytesAt.val {W : World} {e : TypeId} {v : Value} {l : List UInt8} (h : BytesAt W e v l) : ∃ a cap, v = .slice a l.length cap ∧ l.length ≤ cap ∧ (∀ g, v.ownBlock = some g → a = some ⟨g, 0, none⟩) ∧ (0 < l.length → ∃ g, v.ownBlock = some g) := by
  rcases h with ⟨rfl, rfl⟩ | ⟨g, cap, cur, fz, rfl, hh, _, hl, _⟩
  · exact ⟨none, 0, rfl, Nat.le_refl _, fun g h => by simp [Value.ownBlock] at h, fun h => by simp at h⟩
  · exact ⟨_, cap, rfl, hl, fun g' h => by simp [Value.ownBlock] at h; rw [h], fun _ => ⟨g, rfl⟩⟩
theorem BytesAt.lt {W : World} {e : TypeId} {v : Value} {l : List UInt8} (h : BytesAt W e v l) : ∀ k, v.ownBlock = some k → k < W.heap.size := by
  intro k hk
  rcases h with ⟨rfl, _⟩ | ⟨g, cap, cur, fz, rfl, hh, _⟩
  · simp [Value.ownBlock] at hk
  · simp [Value.ownBlock] at hk
    subst hk
    exact (Array.getElem?_eq_some_iff.1 hh).1
theorem BytesAt.nil (W : World) (e : TypeId) : BytesAt W e (.slice none 0 0) [] := Or.inl ⟨rfl, rfl⟩
theorem BytesAt.of {W : World} {b : Nat} {e : TypeId} {v : Value} {l : List UInt8} (h : W.ownsRow b e 1 v l.length (l.map byteV)) : BytesAt W e v l := by
  rcases h.2 with ⟨h1, h2⟩ | ⟨g, cap, cur, h1, h2, h3, h4, h5, h6, h7⟩
  · exact Or.inl ⟨h1, List.eq_nil_of_length_eq_zero h2⟩
  · exact Or.inr ⟨g, cap, cur, _, h1, h3, Or.inl rfl, h4, h5, by simpa using h6, by simpa using h7⟩
/-- Where a row of its own lies. -/
def plB (v : Value) : Pl := ⟨v.ownBlock.getD 0, v, 0⟩
theorem plB_own {v : Value} : ∀ g, (plB v).v.ownBlock = some g → g = (plB v).b := fun g h => by
  have h : v.ownBlock = some g := h
  show g = v.ownBlock.getD 0
  rw [h]; rfl
theorem BytesAt.okB {W : World} {e : TypeId} {v : Value} {l : List UInt8} (h : BytesAt W e v l) (ρ : List Pl) : Ent.ok ρ (plB v) W (.bytes e l) := ⟨h, rfl, plB_own⟩
theorem BytesAt.one {W : World} {e : TypeId} {v : Value} {l : List UInt8} (h : BytesAt W e v l) : one v = true := by
  rcases h with ⟨rfl, _⟩ | ⟨g, cap, cur, fz, rfl, _⟩ <;> rfl
theorem Ent.view_ok {ρ : List Pl} {e : Ent} {p : Pl} {W : World} {sz n : Nat} {get : Nat → List CV} (hv : e.view = some (sz, n, get)) (h : e.ok ρ p W) :
    (∃ a cap, p.v = .slice a n cap ∧ n ≤ cap ∧ (0 < n → a = some ⟨p.b, p.o, none⟩)) ∧ ∀ i, i < n → ∃ vs, IsL [] (get i) vs ∧ ∀ j v, vs[j]? = some v → W.cell? ⟨p.b, p.o + i * sz + j, none⟩ = some v := by
  cases e with
  | elems ty sz' n' get' => cases hv; exact h
  | row e sz' n' get' =>
    cases hv
    obtain ⟨vs, ⟨h1, h2, h3⟩, h4⟩ := h
    have h5 := h4.2
    rcases h5 with ⟨hv, hn⟩ | ⟨g, cap, cur, hv, hg, hh, hr⟩
    · exact ⟨⟨none, 0, by rw [hv, hn], by omega, fun h => by omega⟩, fun i hi => by omega⟩
    · have hgb : g = p.b := h3 g (by rw [hv]; rfl)
      refine ⟨⟨_, cap, hv, hr.1, fun _ => by rw [h2, ← hgb]⟩, fun i hi => ⟨_, h1 i hi, fun j v hj => ?_⟩⟩
      have hc := World.ownsRow.cells h4 (g := g) (by rw [hv]; rfl) (i * sz + j) v (by
        simp only [List.getElem?_take, List.getElem?_drop] at hj
        split at hj
        · exact hj
        · cases hj)
      rw [h2, ← hgb]
      have e1 : ((⟨g, 0, none⟩ : Addr).add (i * sz + j)) = ⟨g, 0 + i * sz + j, none⟩ := by
        unfold Addr.add
        split
        · rename_i h0
          simp; try omega
        · simp
      rw [← e1]
      exact hc
  | cells ty cs => cases hv
  | bytes e l =>
    cases hv
    obtain ⟨h1, h2, h3⟩ := h
    obtain ⟨a, cap, hpv, hc, hg, hn⟩ := h1.val
    rw [byteL_eq]
    refine ⟨⟨a, cap, hpv, hc, fun h0 => ?_⟩, fun i hi => ⟨[byteV (l.getD i 0)], rfl, fun j v hj => ?_⟩⟩
    · obtain ⟨g, h4⟩ := hn h0
      rw [hg g h4, h2, ← h3 g h4]
    · obtain ⟨g, h4⟩ := hn (by omega)
      cases j with
      | zero =>
        simp only [List.getElem?_cons_zero, Option.some.injEq] at hj
        rw [← hj, h2, ← h3 g h4]
        have := h1.cell h4 i hi
        simpa using this
      | succ j => simp at hj
  | glob g sz' n' get' => cases hv
  | data fr ty sz n get => cases hv
  | orow ty sz n get => cases hv
  | dead => cases hv
  | mp gs l => cases hv
  | mq t l => cases hv

/-- As view, but that a variable of the package is taken too. -/
noncomputable def Ent.elts : Ent → Option (Nat × Nat × (Nat → List CV))
  | .elems _ sz n get => some (sz, n, get)
  | .row _ sz n get => some (sz, n, get)
  | .glob _ sz n get => some (sz, n, get)
  | .bytes _ l => some (1, byteL l, fun i => [.int .u8 (byteN l i)])
  | _ => none
theorem Ent.elts_ok {ρ : List Pl} {e : Ent} {p : Pl} {W : World} {sz n : Nat} {get : Nat → List CV} (hv : e.elts = some (sz, n, get)) (h : e.ok ρ p W) :
    ∀ i, i < n → ∃ vs, IsL [] (get i) vs ∧ ∀ j v, vs[j]? = some v → W.cell? ⟨p.b, p.o + i * sz + j, none⟩ = some v := by
  cases e with
  | elems ty sz' n' get' => exact (Ent.view_ok (e := .elems ty sz' n' get') hv h).2
  | row e sz' n' get' => exact (Ent.view_ok (e := .row e sz' n' get') hv h).2
  | glob g sz' n' get' => cases hv; exact h.2
  | cells ty cs => cases hv
  | bytes e l => exact (Ent.view_ok (e := .bytes e l) hv h).2
  | data fr ty sz n get => cases hv
  | orow ty sz n get => cases hv
  | dead => cases hv
  | mp gs l => cases hv
  | mq t l => cases hv

/-- How many elements there are, and of what size. -/
noncomputable def Ent.shape : Ent → Option (Nat × Nat)
  | .elems _ sz n _ => some (sz, n)
  | .row _ sz n _ => some (sz, n)
  | .bytes _ l => some (1, byteL l)
  | .data _ _ sz n _ => some (sz, n)
  | .orow _ sz n _ => some (sz, n)
  | _ => none
theorem Ent.shape_ok {ρ : List Pl} {e : Ent} {p : Pl} {W : World} {sz n : Nat} (hv : e.shape = some (sz, n)) (h : e.ok ρ p W) : ∃ a cap, p.v = .slice a n cap ∧ n ≤ cap ∧ (0 < n → a = some ⟨p.b, p.o, none⟩) := by
  cases e with
  | elems ty sz' n' get' => cases hv; exact (Ent.view_ok (e := .elems ty _ _ get') rfl h).1
  | row e sz' n' get' => cases hv; exact (Ent.view_ok (e := .row e _ _ get') rfl h).1
  | bytes e l => cases hv; exact (Ent.view_ok (e := .bytes e l) rfl h).1
  | data fr ty sz n get => cases hv; exact h
  | orow ty sz n get => cases hv; exact h.1
  | glob g sz' n' get' => cases hv
  | cells ty cs => cases hv
  | dead => cases hv
  | mp gs l => cases hv
  | mq t l => cases hv
/-- Elements that may hold slices; the flag: made since the call began. -/
def Ent.dview : Ent → Option (Bool × Nat × Nat × (Nat → Nat → Cell))
  | .data fr _ sz n get => some (fr, sz, n, get)
  | .orow _ sz n get => some (false, sz, n, get)
  | _ => none
theorem Ent.dview_ok {ρ : List Pl} {e : Ent} {p : Pl} {W : World} {D : Bool → Nat → Prop} {fr : Bool} {sz n : Nat} {get : Nat → Nat → Cell} (hv : e.dview = some (fr, sz, n, get)) (h : e.ok ρ p W) (hd : e.dat W D p) :
    (∃ a cap, p.v = .slice a n cap ∧ n ≤ cap ∧ (0 < n → a = some ⟨p.b, p.o, none⟩)) ∧ ∀ i j, i < n → j < sz → ∃ v, W.cell? ⟨p.b, p.o + i * sz + j, none⟩ = some v ∧ (get i j).shows W (subD D fr) v := by
  cases e with
  | data fr' ty sz n' get' =>
    cases hv
    refine ⟨h, fun i j hi hj => ?_⟩
    obtain ⟨a, cap, h1, h2, h3⟩ := hd
    obtain ⟨b, o, h4, h5, h6⟩ := h3 (by omega)
    obtain ⟨a', cap', g1, g2, g3⟩ := h
    rw [g1] at h1
    cases h1
    have := (g3 (by omega)).symm.trans h4
    cases this
    exact h6 i j hi hj
  | orow ty sz n' get' =>
    cases hv
    refine ⟨h.1, fun i j hi hj => ?_⟩
    obtain ⟨vs, h1, h2⟩ := hd
    obtain ⟨v, h3, h4⟩ := h2 i j hi hj
    refine ⟨v, ?_, h4⟩
    obtain ⟨⟨a, cap, g1, g2, g3⟩, g4, g5⟩ := h
    rcases h1.2 with ⟨hv, hn⟩ | ⟨g, cap', cur, hv, hg, hh, hr⟩
    · omega
    · have hgb : g = p.b := g5 g (by rw [hv]; rfl)
      have hc := World.ownsRow.cells h1 (g := g) (by rw [hv]; rfl) (i * sz + j) v h3
      rw [g4, ← hgb]
      have e1 : ((⟨g, 0, none⟩ : Addr).add (i * sz + j)) = ⟨g, 0 + i * sz + j, none⟩ := by
        unfold Addr.add
        split
        · rename_i h0
          simp at h0 ⊢; try omega
        · simp
      rw [← e1]
      exact hc
  | elems ty sz n' get' => cases hv
  | row e sz n' get' => cases hv
  | bytes e l => cases hv
  | glob g sz n' get' => cases hv
  | cells ty cs => cases hv
  | dead => cases hv
  | mp gs l => cases hv
  | mq t l => cases hv

theorem den_vsl {ρ : List Pl} {k lo n sz : Nat} {u : Value} (h : (CV.vsl k lo n sz).den ρ = some u) : ∃ (p : Pl) (a : Option Addr) (m cap : Nat), ρ[k]? = some p ∧ p.v = .slice a m cap ∧ lo + n ≤ m ∧ u = .slice (if cap = lo then a else a.map (·.add (lo * sz))) n (cap - lo) := by
  simp only [CV.den] at h
  cases hk : ρ[k]? with
  | none => rw [hk] at h; cases h
  | some p =>
    rw [hk] at h
    simp only [subV] at h
    split at h
    · rename_i a m cap hv
      split at h
      · rename_i hm
        exact ⟨p, a, m, cap, rfl, hv, hm, (Option.some.inj h).symm⟩
      · cases h
    · cases h
theorem addr_add {b o x : Nat} : (⟨b, o, none⟩ : Addr).add x = ⟨b, o + x, none⟩ := by
  unfold Addr.add
  split
  · rename_i h0; simp; try omega
  · simp
/-- The elements of a part of a slice. -/
theorem view_part {ρ : List Pl} {en : Ent} {p : Pl} {W : World} {sz m : Nat} {get : Nat → List CV} (hv : en.view = some (sz, m, get)) (h : en.ok ρ p W) {a : Option Addr} {m' cap lo n : Nat} (hp : p.v = .slice a m' cap) (hn : lo + n ≤ m') :
    m = m' ∧ lo + n ≤ cap ∧ (0 < n → (if cap = lo then a else a.map (·.add (lo * sz))) = some ⟨p.b, p.o + lo * sz, none⟩) := by
  obtain ⟨⟨a2, cap2, h1, h2, h3⟩, _⟩ := Ent.view_ok hv h
  rw [hp] at h1
  cases h1
  refine ⟨rfl, by omega, fun h0 => ?_⟩
  rw [if_neg (by omega), h3 (by omega)]
  simp only [Option.map_some, addr_add]
theorem shape_part {ρ : List Pl} {en : Ent} {p : Pl} {W : World} {sz m : Nat} (hv : en.shape = some (sz, m)) (h : en.ok ρ p W) {a : Option Addr} {m' cap lo n : Nat} (hp : p.v = .slice a m' cap) (hn : lo + n ≤ m') :
    m = m' ∧ lo + n ≤ cap ∧ (0 < n → (if cap = lo then a else a.map (·.add (lo * sz))) = some ⟨p.b, p.o + lo * sz, none⟩) := by
  obtain ⟨a2, cap2, h1, h2, h3⟩ := Ent.shape_ok hv h
  rw [hp] at h1
  cases h1
  refine ⟨rfl, by omega, fun h0 => ?_⟩
  rw [if_neg (by omega), h3 (by omega)]
  simp only [Option.map_some, addr_add]
theorem fp_some {ρ : List Pl} {h : List Ent} {k b : Nat} (hf : fp ρ h k = some b) : ∃ e p, h[k]? = some e ∧ ρ[k]? = some p ∧ e.fp p = some b := by
  unfold fp at hf
  split at hf
  · exact ⟨_, _, by assumption, by assumption, hf⟩
  · cases hf
theorem fp_mk {ρ : List Pl} {h : List Ent} {k : Nat} {e : Ent} {p : Pl} (he : h[k]? = some e) (hp : ρ[k]? = some p) : fp ρ h k = e.fp p := by
  unfold fp
  rw [he, hp]

/-- The block on which an entry hangs is there, and is its own or is only read. -/
theorem dep_fp {e : Ent} {p : Pl} {b : Nat} (h : e.dep p = some b) : e.fp p = some b ∨ e.isElems = true := by
  cases e <;> first | (cases h; done) | exact Or.inl h | exact Or.inr rfl

theorem Rel.refl (w : World) : Rel w (Gs.all []) [] [] w := by
  refine ⟨rfl, ?_, ?_, ?_, fun i hi _ => rfl, fun k e p he => by simp at he, rfl, rfl, rfl, Nat.le_refl _⟩
  · intro k e p h; simp at h
  · intro k b h; simp [fp] at h
  · intro j k b h; simp [fp] at h

theorem Dom.own {w0 : World} {G : Gs} {ρ : List Pl} {h : List Ent} {W : World} (r : Rel w0 G ρ h W) : ∀ {fr : Bool} {b : Nat}, Dom w0 G ρ h W fr b → b < W.heap.size ∧ (∀ j, fp ρ h j ≠ some b) ∧ True
  | false, b, Or.inl hd => ⟨Nat.lt_of_lt_of_le hd.1 r.size, fun j hj => by
    rcases (r.own j b hj).2 with h1 | h1
    · exact hd.2.1 h1
    · exact absurd hd.1 (Nat.not_lt.2 h1), trivial⟩
  | false, b, Or.inr hd => ⟨hd.2.1, hd.2.2, trivial⟩
  | true, b, hd => ⟨hd.2.1, hd.2.2, trivial⟩
/-- What is only read lies still. -/
theorem Rel.ro {w0 : World} {G : Gs} {ρ : List Pl} {h : List Ent} {W : World} (r : Rel w0 G ρ h W) {k : Nat} {e : Ent} {p : Pl} {b : Nat} (he : h[k]? = some e) (hp : ρ[k]? = some p) (h1 : e.isElems = true) (hd : e.dep p = some b) : b < W.heap.size ∧ (∀ j, fp ρ h j ≠ some b) ∧ True := by
  have hx := r.dat k e p he hp
  cases e with
  | elems ty sz n get =>
    simp only [Ent.dep] at hd
    split at hd
    · rename_i h0
      cases hd
      exact Dom.own r (hx h0)
    · cases hd
  | glob g sz n get =>
    simp only [Ent.dep] at hd
    split at hd
    · rename_i h0
      cases hd
      exact Dom.own r (hx h0)
    · cases hd
  | data fr ty sz n get => cases hd
  | _ => cases h1
/-- A step under which nothing that lies still turns. -/
theorem Rel.datStep {w0 : World} {G : Gs} {ρ ρ' : List Pl} {h h' : List Ent} {W W' : World} (r : Rel w0 G ρ h W) (hs : W.heap.size ≤ W'.heap.size) (hfp : ∀ j b, fp ρ' h' j = some b → (∃ i, fp ρ h i = some b) ∨ W.heap.size ≤ b)
    (hk : ∀ b, b < W.heap.size → (∀ j, fp ρ h j ≠ some b) → True → W'.heap[b]? = W.heap[b]?) : ∀ fr b, Dom w0 G ρ h W fr b → Dom w0 G ρ' h' W' fr b ∧ W'.heap[b]? = W.heap[b]? := fun fr b hd =>
  ⟨Dom.mono hs hfp fr b hd, by obtain ⟨h1, h2, h3⟩ := Dom.own r hd; exact hk b h1 h2 h3⟩
theorem Rel.dep_lt {w0 : World} {G : Gs} {ρ : List Pl} {h : List Ent} {W : World} (r : Rel w0 G ρ h W) {k : Nat} {e : Ent} {p : Pl} {b : Nat} (he : h[k]? = some e) (hp : ρ[k]? = some p) (hd : e.dep p = some b) : b < W.heap.size := by
  rcases dep_fp hd with h1 | h1
  · exact (r.own k b (by rw [fp_mk he hp]; exact h1)).1
  · exact (r.ro he hp h1 hd).1

theorem Rel.place {w0 : World} {G : Gs} {ρ : List Pl} {h : List Ent} {W : World} (r : Rel w0 G ρ h W) {k : Nat} {e : Ent} (he : h[k]? = some e) : ∃ p, ρ[k]? = some p ∧ e.ok ρ p W := by
  have hk : k < ρ.length := by rw [r.len]; exact (List.getElem?_eq_some_iff.1 he).1
  exact ⟨ρ[k], List.getElem?_eq_getElem hk, r.ok k e _ he (List.getElem?_eq_getElem hk)⟩

theorem Rel.drewN {w0 : World} {G : Gs} {ρ : List Pl} {h : List Ent} {W : World} (r : Rel w0 G ρ h W) (n : Nat) : Rel w0 G ρ h { W with drawn := n } :=
  ⟨r.len, fun k e p he hp => Ent.ok_of_block (r.ok k e p he hp) (fun _ _ => rfl), r.own, r.dis, r.kept, fun k e p he hp => Ent.dat_mono (r.dat k e p he hp) (r.datStep (Nat.le_refl _) (fun j b hf => Or.inl ⟨j, hf⟩) fun _ _ _ _ => rfl) (fun _ _ => rfl), r.os, r.tape, r.output, r.size⟩

/-- Some entries are forgotten. -/
def Le (hS h : List Ent) : Prop := ∀ (k : Nat) (e : Ent), hS[k]? = some e → e = .dead ∨ h[k]? = some e

theorem Le.refl (h : List Ent) : Le h h := fun _ _ h => Or.inr h

theorem Rel.forget {w0 : World} {G : Gs} {ρ : List Pl} {h hS : List Ent} {W : World} (r : Rel w0 G ρ h W) (hl : Le hS h) (hn : hS.length = h.length) : Rel w0 G ρ hS W := by
  have hfp : ∀ k b, fp ρ hS k = some b → fp ρ h k = some b := fun k b hf => by
    obtain ⟨e, p, he, hp, hx⟩ := fp_some hf
    rcases hl k e he with rfl | he'
    · cases hx
    · rw [fp_mk he' hp]; exact hx
  refine ⟨by rw [r.len, hn], fun k e p he hp => ?_, fun k b hf => r.own k b (hfp k b hf), fun j k b hj hk => r.dis j k b (hfp j b hj) (hfp k b hk), r.kept, fun k e p he hp => ?_, r.os, r.tape, r.output, r.size⟩
  · rcases hl k e he with rfl | he'
    · trivial
    · exact r.ok k e p he' hp
  · rcases hl k e he with rfl | he'
    · trivial
    · exact Ent.dat_mono (r.dat k e p he' hp) (r.datStep (Nat.le_refl _) (fun j b hf => Or.inl ⟨j, hfp j b hf⟩) fun _ _ _ _ => rfl) fun _ _ => rfl

/-- Fewer entries, and fewer places: what lies behind is let go. -/
theorem Rel.shrink {w0 : World} {G : Gs} {ρ r' : List Pl} {h hS : List Ent} {W : World} (r : Rel w0 G (ρ ++ r') h W) (hl : Le hS h) (hn : hS.length = ρ.length)
    (hden : ∀ (k : Nat) (e : Ent) (p : Pl), hS[k]? = some e → e ≠ .dead → ρ[k]? = some p → e.ok (ρ ++ r') p W → e.ok ρ p W) : Rel w0 G ρ hS W := by
  have hpl : ∀ (k : Nat) (p : Pl), ρ[k]? = some p → (ρ ++ r')[k]? = some p := fun k p hp => by
    rw [List.getElem?_append_left (List.getElem?_eq_some_iff.1 hp).1]; exact hp
  have hfp : ∀ k b, fp ρ hS k = some b → fp (ρ ++ r') h k = some b := fun k b hf => by
    obtain ⟨e, p, he, hp, hx⟩ := fp_some hf
    rcases hl k e he with rfl | he'
    · cases hx
    · rw [fp_mk he' (hpl k p hp)]; exact hx
  refine ⟨hn.symm, fun k e p he hp => ?_, fun k b hf => r.own k b (hfp k b hf), fun j k b hj hk => r.dis j k b (hfp j b hj) (hfp k b hk), r.kept, fun k e p he hp => ?_, r.os, r.tape, r.output, r.size⟩
  · by_cases hd : e = .dead
    · subst hd; trivial
    rcases hl k e he with rfl | he'
    · exact absurd rfl hd
    · exact hden k e p he hd hp (r.ok k e p he' (hpl k p hp))
  · rcases hl k e he with rfl | he'
    · trivial
    · exact Ent.dat_mono (r.dat k e p he' (hpl k p hp)) (r.datStep (Nat.le_refl _) (fun j b hf => Or.inl ⟨j, hfp j b hf⟩) fun _ _ _ _ => rfl) fun _ _ => rfl

theorem getElem?_snoc {α : Type} {l : List α} {x y : α} {k : Nat} (h : (l ++ [x])[k]? = some y) : (k < l.length ∧ l[k]? = some y) ∨ (k = l.length ∧ y = x) := by
  rcases Nat.lt_or_ge k l.length with hk | hk
  · rw [List.getElem?_append_left hk] at h; exact Or.inl ⟨hk, h⟩
  · rw [List.getElem?_append_right hk] at h
    have : k - l.length = 0 := by
      rcases Nat.eq_zero_or_pos (k - l.length) with h0 | h0
      · exact h0
      · rw [List.getElem?_eq_none (by simp; omega)] at h; cases h
    rw [this] at h
    simp at h
    exact Or.inr ⟨by omega, h.symm⟩

/-- A new block. -/
theorem Rel.alloc {w0 : World} {G : Gs} {ρ : List Pl} {h : List Ent} {W : World} (r : Rel w0 G ρ h W) (ty : TypeId) {cs : List CV} {vs : List Value} (hv : IsL ρ cs vs) :
    Rel w0 G (ρ ++ [⟨W.heap.size, undef, 0⟩]) (h ++ [.cells ty cs]) (W.alloc (.cells vs.toArray ty)) := by
  have hold : ∀ b, b < W.heap.size → (W.alloc (.cells vs.toArray ty)).heap[b]? = W.heap[b]? := fun b hb => Below.heap_alloc W _ b hb
  have hfp : ∀ k b, fp (ρ ++ [⟨W.heap.size, undef, 0⟩]) (h ++ [.cells ty cs]) k = some b → (k < h.length ∧ fp ρ h k = some b ∧ b < W.heap.size) ∨ (k = h.length ∧ b = W.heap.size) := fun k b hf => by
    obtain ⟨e, p, he, hp, hx⟩ := fp_some hf
    rcases getElem?_snoc he with ⟨hk, he'⟩ | ⟨hk, rfl⟩
    · rcases getElem?_snoc hp with ⟨hk2, hp'⟩ | ⟨hk2, _⟩
      · have : fp ρ h k = some b := by rw [fp_mk he' hp']; exact hx
        exact Or.inl ⟨hk, this, (r.own k b this).1⟩
      · rw [r.len] at hk2; omega
    · rcases getElem?_snoc hp with ⟨hk2, hp'⟩ | ⟨hk2, rfl⟩
      · rw [r.len] at hk2; omega
      · simp [Ent.fp] at hx; exact Or.inr ⟨hk, hx.symm⟩
  refine ⟨by simp [r.len], fun k e p he hp => ?_, fun k b hf => ?_, fun j k b hj hk => ?_, fun i hi hG => ?_, fun k e p he hp => ?_, r.os, r.tape, r.output, ?_⟩
  · rcases getElem?_snoc he with ⟨hk, he'⟩ | ⟨hk, rfl⟩
    · rcases getElem?_snoc hp with ⟨hk2, hp'⟩ | ⟨hk2, _⟩
      · refine Ent.ok_app (Ent.ok_of_block (r.ok k e p he' hp') fun b hb => hold b ?_) _
        exact r.dep_lt he' hp' hb
      · rw [r.len] at hk2; omega
    · rcases getElem?_snoc hp with ⟨hk2, hp'⟩ | ⟨hk2, rfl⟩
      · rw [r.len] at hk2; omega
      · exact ⟨vs, hv.app_ρ _, heap_alloc_new W _⟩
  · have hs : W.heap.size < (W.alloc (.cells vs.toArray ty)).heap.size := by simp
    rcases hfp k b hf with ⟨hk, hf', hlt⟩ | ⟨hk, rfl⟩
    · exact ⟨Nat.lt_trans hlt hs, (r.own k b hf').2⟩
    · exact ⟨hs, Or.inr r.size⟩
  · rcases hfp j b hj with ⟨hj1, hf', hlt⟩ | ⟨hj1, hj2⟩
    · rcases hfp k b hk with ⟨hk1, hf2, hlt2⟩ | ⟨hk1, hk2⟩
      · exact r.dis j k b hf' hf2
      · omega
    · rcases hfp k b hk with ⟨hk1, hf2, hlt2⟩ | ⟨hk1, hk2⟩
      · omega
      · omega
  · rw [hold i (Nat.lt_of_lt_of_le hi r.size)]
    exact r.kept i hi hG
  · rcases getElem?_snoc he with ⟨hk, he'⟩ | ⟨hk, rfl⟩
    · rcases getElem?_snoc hp with ⟨hk2, hp'⟩ | ⟨hk2, _⟩
      · refine Ent.dat_mono (r.dat k e p he' hp') (r.datStep (by simp) (fun j b hf => ?_) fun b hb _ _ => hold b hb) fun b hb => hold b (r.own k b (by rw [fp_mk he' hp']; exact hb)).1
        rcases hfp j b hf with ⟨_, h3, _⟩ | ⟨_, h3⟩
        · exact Or.inl ⟨j, h3⟩
        · exact Or.inr (Nat.le_of_eq h3.symm)
      · rw [r.len] at hk2; omega
    · trivial
  · have := r.size
    simp
    omega
end Go.Proofs.Ytcgoaicifjndpaa.Vx
