/- The walker: code, regions, calls. -/
import Derived.Test.YtcgoaicifjndpaaVxPevOk2
namespace Go.Proofs.Ytcgoaicifjndpaa.Vx
open Go.RowKit
set_option linter.unusedVariables false
set_option linter.unusedSimpArgs false

/-- What a call comes to: what it asks, its result, the entries behind it, those that it may have turned. -/
structure CtR where
  pre : Prop
  res : SV
  h : List Ent
  ms : List Nat

/-- p where b holds, q where it does not. (A structure: the evaluation of the walker goes into it.) -/
structure Ife (b : Bool) (p q : Prop) : Prop where
  t : b = true → p
  f : b = false → q
/-- pre is asked; p may lean on it. -/
structure Need (c p : Prop) : Prop where
  pre : c
  rest : c → p
/-- p where c holds; q in any case. -/
structure Fork (c p q : Prop) : Prop where
  l : c → p
  r : q
theorem Ife_iff (b : Bool) (p q : Prop) : Ife b p q ↔ (b = true → p) ∧ (b = false → q) := ⟨fun h => ⟨h.t, h.f⟩, fun h => ⟨h.1, h.2⟩⟩
theorem Need_iff (c p : Prop) : Need c p ↔ c ∧ (c → p) := ⟨fun h => ⟨h.pre, h.rest⟩, fun h => ⟨h.1, h.2⟩⟩

theorem Ife_tt (p q : Prop) : Ife true p q = p := propext ⟨fun h => h.t rfl, fun h => ⟨fun _ => h, fun e => by cases e⟩⟩
theorem Ife_ff (p q : Prop) : Ife false p q = q := propext ⟨fun h => h.f rfl, fun h => ⟨fun e => (by cases e), fun _ => h⟩⟩
theorem Need_tt (p : Prop) : Need True p = p := propext ⟨fun h => h.rest trivial, fun h => ⟨trivial, fun _ => h⟩⟩

abbrev App := List SV → List Ent → Option CtR

def lookC : List (Nat × App) → Nat → Option App
  | [], _ => none
  | (u, i) :: r, t => if u == t then some i else lookC r t

def maskedAt (hS : List Ent) (k : Nat) : Bool :=
  match hS[k]? with
  | some .dead => true
  | none => true
  | _ => false

def put (t : List SV) (d : Option Nat) (v : SV) : List SV :=
  match d with
  | some i => t.set i v
  | none => t

inductive Ex where
  | normal | exit (id : Nat) | ret

/-- All that the walker is told. -/
structure Env where
  A : Arith
  E : Tbl
  C : List (Nat × App)
  R : List (Nat × List (Nat × Bool))
  L : Code → St → (Ex → St → Prop) → Prop
  U : Nat

def pevK (r : PR) (t : List SV) (d : Option Nat) (K : List SV → Prop) : Prop :=
  match r with
  | .ok v => K (put t d v)
  | .okp pre v => Need pre (K (put t d v))
  | .split b x y => Ife b (K (put t d x)) (K (put t d y))
  | .okps pre b x y => Need pre (Ife b (K (put t d x)) (K (put t d y)))
  | .fork c x y => Fork c (K (put t d x)) (K (put t d y))
  | .no => False

def callK (N : Env) (hS : List Ent) (f : Nat) (args : List SV) (d : Option Nat) (st : St) (K : St → Prop) : Prop :=
  match lookC N.C f with
  | some app => match app args st.h with
    | some r => match r.ms.all (maskedAt hS) with
      | true => Need r.pre (K ⟨put st.t d r.res, r.h⟩)
      | false => False
    | none => False
  | none => False

/-- An element in which some cells are set. -/
def upG (get : Nat → List CV) (i off : Nat) (xs : List CV) (j : Nat) : List CV := match Nat.beq j i with
  | true => setMany (get i) off xs
  | false => get j
/-- One cell among integers is set. -/
def updM (A : Arith) (kk : IntKind) (i : Nat) (v : Int) : Nat → List CV → Option (List CV)
  | _, [] => some []
  | j, .int k' e :: r => match kk == k' with
    | true => match updM A kk i v (j + 1) r with
      | some l => some (.int kk (A.upd i j v e) :: l)
      | none => none
    | false => none
  | _, _ => none
def storeK (N : Env) (hS : List Ent) (ty : Nat) (a x : SV) (d : Option Nat) (st : St) (K : St → Prop) : Prop :=
  match a, svCells x, look N.E.T ty with
  | .c (.ptr k off), some xs, some i => match st.h[k]? with
    | some (.cells t cs) => match Nat.beq xs.length i.size && Nat.ble (off + xs.length) cs.length && maskedAt hS k with
      | true => K ⟨put st.t d .und, st.h.set k (.cells t (setMany cs off xs))⟩
      | false => False
    | _ => False
  | .c (.aptr k i off m), some [.int kk v], some ti => match st.h[k]? with
    | some (.cells t cs) => match updM N.A kk i v 0 ((cs.drop off).take m) with
      | some us => match Nat.beq us.length m && Nat.beq ti.size 1 && Nat.ble (off + m) cs.length && maskedAt hS k with
        | true => Need (N.A.ltN i m) (K ⟨put st.t d .und, st.h.set k (.cells t (setMany cs off us))⟩)
        | false => False
      | none => False
    | _ => False
  | .c (.eptr k i sz off), some xs, some ti => match st.h[k]? with
    | some (.row e' sz' n get) => match Nat.beq sz sz' && Nat.beq xs.length ti.size && Nat.ble (off + xs.length) sz && pfs xs && maskedAt hS k && !Nat.beq xs.length 0 with
      | true => Need (N.A.ltN i n) (K ⟨put st.t d .und, st.h.set k (.row e' sz' n (upG get i off xs))⟩)
      | false => False
    | some (.bytes e' l) => match xs with
      | [.int .u8 n] => match Nat.beq sz 1 && Nat.beq off 0 && Nat.beq ti.size 1 && maskedAt hS k with
        | true => Need (N.A.leL (i + 1) l ∧ N.A.isByte n) (K ⟨put st.t d .und, st.h.set k (.bytes e' (N.A.setB l i n))⟩)
        | false => False
      | _ => False
    | _ => False
  | _, _, _ => False

def appGo (N : Env) (hS : List Ent) (e : Nat) (x : SV) (m : List UInt8) (d : Option Nat) (st : St) (K : St → Prop) : Prop :=
  match x with
  | .c (.row k) => match st.h[k]? with
    | some (.bytes e' l) => match Nat.beq e e' && maskedAt hS k with
      | true => Need (N.A.fitL l m) (K ⟨put st.t d (.c (.row st.h.length)), st.h.set k .dead ++ [.bytes e (N.A.app l m)]⟩)
      | false => False
    | _ => False
  | .c (.val (.slice none 0 0)) => Need (N.A.fitL [] m) (K ⟨put st.t d (.c (.row st.h.length)), st.h ++ [.bytes e (N.A.app [] m)]⟩)
  | _ => False

/-- One more element. -/
def pushG (n : Nat) (get : Nat → List CV) (cs : List CV) (i : Nat) : List CV := match Nat.blt i n with
  | true => get i
  | false => cs
def appS (N : Env) (hS : List Ent) (e sz by_ : Nat) (x : SV) (cs : List CV) (d : Option Nat) (st : St) (K : St → Prop) : Prop :=
  match x with
  | .c (.row k) => match st.h[k]? with
    | some (.row e' sz' n get) => match Nat.beq e e' && Nat.beq sz sz' && maskedAt hS k with
      | true => Need (N.A.fitR n by_) (K ⟨put st.t d (.c (.row st.h.length)), st.h.set k .dead ++ [.row e sz (n + 1) (pushG n get cs)]⟩)
      | false => False
    | _ => False
  | .c (.val (.slice none 0 0)) => Need (N.A.fitR 0 by_) (K ⟨put st.t d (.c (.row st.h.length)), st.h ++ [.row e sz 1 (pushG 0 (fun _ => []) cs)]⟩)
  | _ => False

/-- Elements behind elements. -/
def catG (n : Nat) (get get2 : Nat → List CV) (i : Nat) : List CV := match Nat.blt i n with
  | true => get i
  | false => get2 (i - n)
def appV (N : Env) (hS : List Ent) (e sz by_ : Nat) (x : SV) (m : Nat) (get2 : Nat → List CV) (d : Option Nat) (st : St) (K : St → Prop) : Prop :=
  match x with
  | .c (.row k) => match st.h[k]? with
    | some (.row e' sz' n get) => match Nat.beq e e' && Nat.beq sz sz' && maskedAt hS k with
      | true => Need (N.A.fitV n m by_ ∧ N.A.lenG m get2 sz) (K ⟨put st.t d (.c (.row st.h.length)), st.h.set k .dead ++ [.row e sz (n + m) (catG n get get2)]⟩)
      | false => False
    | _ => False
  | .c (.val (.slice none 0 0)) => Need (N.A.fitV 0 m by_ ∧ N.A.lenG m get2 sz) (K ⟨put st.t d (.c (.row st.h.length)), st.h ++ [.row e sz m get2]⟩)
  | .c (.vsl k lo n0 sz0) => match st.h[k]? with
    | some (.row e' sz' n get) => match Nat.beq e e' && Nat.beq sz sz' && Nat.beq sz0 sz && maskedAt hS k with
      | true => Need (lo = 0 ∧ N.A.fitV n0 m by_ ∧ N.A.lenG m get2 sz) (K ⟨put st.t d (.c (.row st.h.length)), st.h.set k .dead ++ [.row e sz (n0 + m) (catG n0 get get2)]⟩)
      | false => False
    | _ => False
  | _ => False

def appK (N : Env) (hS : List Ent) (tx ty : Nat) (x y : SV) (d : Option Nat) (st : St) (K : St → Prop) : Prop :=
  match look N.E.T tx with
  | some ti => match ti.kd with
    | .slice e => match look N.E.T e with
      | some ei => match ei.kd, ei.zero with
        | .int .u8, [.int .u8 0] => match Nat.beq ei.bytes 1 && Nat.beq ei.size 1 with
          | true => match y with
            | .c (.str m) => match look N.E.T ty with
              | some yi => match yi.kd with
                | .str => appGo N hS e x m d st K
                | _ => False
              | none => False
            | .c (.sl j off 1 1) => match Nat.beq tx ty, st.h[j]? with
              | true, some (.cells _ cs) => match cs[off]? with
                | some (.int .u8 n) => Need (N.A.isByte n) (appGo N hS e x [N.A.byte n] d st K)
                | _ => False
              | _, _ => False
            | .c (.sl j off len cap) => match Nat.beq tx ty, st.h[j]? with
              | true, some (.cells _ cs) => match ints .u8 ((cs.drop off).take len) with
                | some ns => match Nat.beq ns.length len with
                  | true => Need (N.A.bytesOk ns) (appGo N hS e x (ns.map N.A.byte) d st K)
                  | false => False
                | none => False
              | _, _ => False
            | _ => False
          | false => False
        | _, _ => match y with
          | .c (.sl j off 1 1) => match Nat.beq tx ty, st.h[j]? with
            | true, some (.cells _ cs) => match pfs cs && Nat.beq off 0 && Nat.beq cs.length ei.size && !Nat.beq ei.size 0 with
              | true => appS N hS e ei.size ei.bytes x cs d st K
              | false => False
            | _, _ => False
          | .c (.row j) => match Nat.beq tx ty, (st.h[j]?).bind Ent.view with
            | true, some (sz', m, get2) => match Nat.beq sz' ei.size && !Nat.beq ei.size 0 with
              | true => appV N hS e ei.size ei.bytes x m get2 d st K
              | false => False
            | _, _ => False
          | .c (.vsl j lo m sz2) => match Nat.beq tx ty, (st.h[j]?).bind Ent.view with
            | true, some (sz', _, get2) => match Nat.beq sz' ei.size && !Nat.beq ei.size 0 && Nat.beq sz2 sz' with
              | true => appV N hS e ei.size ei.bytes x m (fun i => get2 (lo + i)) d st K
              | false => False
            | _, _ => False
          | .c (.val (.slice none 0 0)) => match Nat.beq tx ty && !Nat.beq ei.size 0 with
            | true => appV N hS e ei.size ei.bytes x 0 (fun _ => []) d st K
            | false => False
          | _ => False
      | none => False
    | _ => False
  | none => False
/-! ### Elements that hold slices -/
def takeC (f : Nat → Cell) : Nat → Nat → List Cell
  | _, 0 => []
  | o, n + 1 => f o :: takeC f (o + 1) n
/-- Cells of such elements as cells of a value: what they hold comes to stand as entries, from number m on. -/
def nestC (fr : Bool) : Nat → List Cell → List CV × List Ent
  | _, [] => ([], [])
  | m, .pl x :: r => match nestC fr m r with
    | (xs, es) => (x :: xs, es)
  | m, .ns fr' ty sz n g :: r => match nestC fr (m + 1) r with
    | (xs, es) => (.row m :: xs, .data (fr || fr') ty sz n g :: es)
  | m, .es fr' ty sz n g :: r => match nestC fr (m + 1) r with
    | (xs, es) => (.row m :: xs, .elems ty sz n g :: es)
def loadN (N : Env) (t : Nat) (x : SV) (d : Option Nat) (st : St) (K : St → Prop) : Prop :=
  match x with
  | .c (.eptr k i sz off) => match look N.E.T t, (st.h[k]?).bind Ent.dview with
    | some ti, some (fr, sz', n, get) => match Nat.beq sz sz' && Nat.ble (off + ti.size) sz' with
      | true => match nestC fr st.h.length (takeC (get i) off ti.size) with
        | (xs, es) => match ag ti.agg xs 0 ti.size with
          | .ok v => Need (N.A.ltN i n) (K ⟨put st.t d v, st.h ++ es⟩)
          | _ => False
      | false => False
    | _, _ => False
  | _ => False
/-- Is a cell of a value, or a slice made since the call began. -/
def Cell.isNew : Cell → Prop
  | .pl _ => True
  | .ns fr .. => fr = true
  | .es fr .. => fr = true
def newR (n sz : Nat) (get : Nat → Nat → Cell) : Prop := ∀ i j, i < n → j < sz → (get i j).isNew
/-- An own row is written no more: it comes to be data. -/
def frzE : Ent → Ent
  | .row ty sz n g => .elems ty sz n g
  | .orow ty sz n g => .data true ty sz n g
  | e => e
def frz1 (h : List Ent) (k : Nat) : List Ent := match h[k]? with
  | some e => h.set k (frzE e)
  | none => h
def frzs (h : List Ent) : List Nat → List Ent
  | [] => h
  | k :: ks => frzs (frz1 h k) ks
def frzOk (h : List Ent) : List Nat → Prop
  | [] => True
  | k :: ks => match h[k]? with
    | some (.orow _ sz n g) => newR n sz g ∧ frzOk h ks
    | _ => frzOk h ks
/-- Cells of a value as cells of such an element, and the own rows among them. -/
def layC (h : List Ent) : List CV → Option (List Cell × List Nat)
  | [] => some ([], [])
  | .row k :: r => match layC h r with
    | some (cs, ks) => match h[k]? with
      | some (.elems ty sz n g) => some (.es false ty sz n g :: cs, ks)
      | some (.data fr ty sz n g) => some (.ns fr ty sz n g :: cs, ks)
      | some (.row ty sz n g) => some (.es true ty sz n g :: cs, k :: ks)
      | some (.orow ty sz n g) => some (.ns true ty sz n g :: cs, k :: ks)
      | _ => none
    | none => none
  | x :: r => match layC h r, x.pf with
    | some (cs, ks), true => some (.pl x :: cs, ks)
    | _, _ => none
/-- One more element. -/
def pushC (n : Nat) (get : Nat → Nat → Cell) (cs : List Cell) (i j : Nat) : Cell := match Nat.blt i n with
  | true => get i j
  | false => cs.getD j (.pl .tt)
/-- Elements behind elements. -/
def catC (n : Nat) (get get2 : Nat → Nat → Cell) (i : Nat) : Nat → Cell := match Nat.blt i n with
  | true => get i
  | false => get2 (i - n)
/-- An element in which some cells are set. -/
def upC (get : Nat → Nat → Cell) (i off : Nat) (cs : List Cell) (i' j : Nat) : Cell := match Nat.beq i' i && Nat.ble off j && Nat.blt j (off + cs.length) with
  | true => cs.getD (j - off) (.pl .tt)
  | false => get i' j
/-- Does an element of this type hold slices? -/
def hasSl : List CV → Bool
  | [] => false
  | .val (.slice none 0 0) :: _ => true
  | _ :: r => hasSl r
def appN (N : Env) (hS : List Ent) (e sz by_ : Nat) (x : SV) (cs : List CV) (d : Option Nat) (st : St) (K : St → Prop) : Prop :=
  match layC st.h cs with
  | some (ls, ks) => match ks.all (maskedAt hS) with
    | true => match x with
      | .c (.row k) => match (frzs st.h ks)[k]? with
        | some (.orow e' sz' n get) => match Nat.beq e e' && Nat.beq sz sz' && maskedAt hS k with
          | true => Need (N.A.fitR n by_ ∧ frzOk st.h ks) (K ⟨put st.t d (.c (.row st.h.length)), (frzs st.h ks).set k .dead ++ [.orow e sz (n + 1) (pushC n get ls)]⟩)
          | false => False
        | _ => False
      | .c (.val (.slice none 0 0)) => Need (N.A.fitR 0 by_ ∧ frzOk st.h ks) (K ⟨put st.t d (.c (.row st.h.length)), frzs st.h ks ++ [.orow e sz 1 (pushC 0 (fun _ _ => .pl .tt) ls)]⟩)
      | _ => False
    | false => False
  | none => False
def appM (N : Env) (hS : List Ent) (e sz by_ : Nat) (x : SV) (m : Nat) (get2 : Nat → Nat → Cell) (d : Option Nat) (st : St) (K : St → Prop) : Prop :=
  match x with
  | .c (.row k) => match st.h[k]? with
    | some (.orow e' sz' n get) => match Nat.beq e e' && Nat.beq sz sz' && maskedAt hS k with
      | true => Need (N.A.fitV n m by_) (K ⟨put st.t d (.c (.row st.h.length)), st.h.set k .dead ++ [.orow e sz (n + m) (catC n get get2)]⟩)
      | false => False
    | _ => False
  | .c (.val (.slice none 0 0)) => Need (N.A.fitV 0 m by_) (K ⟨put st.t d (.c (.row st.h.length)), st.h ++ [.orow e sz m get2]⟩)
  | _ => False
def storeN (N : Env) (hS : List Ent) (ty : Nat) (a x : SV) (d : Option Nat) (st : St) (K : St → Prop) : Prop :=
  match a, svCells x, look N.E.T ty with
  | .c (.eptr k i sz off), some xs, some ti => match layC st.h xs with
    | some (ls, ks) => match (frzs st.h ks)[k]? with
      | some (.orow e' sz' n get) => match Nat.beq sz sz' && Nat.beq xs.length ti.size && Nat.ble (off + xs.length) sz && ks.all (maskedAt hS) && maskedAt hS k && !Nat.beq xs.length 0 with
        | true => Need (N.A.ltN i n ∧ frzOk st.h ks) (K ⟨put st.t d .und, (frzs st.h ks).set k (.orow e' sz' n (upC get i off ls))⟩)
        | false => False
      | _ => False
    | none => False
  | _, _, _ => False
def isOrow (h : List Ent) (a : SV) : Bool := match a with
  | .c (.eptr k _ _ _) => match h[k]? with
    | some (.orow ..) => true
    | _ => false
  | _ => false

/-- Do the elements of these slices hold slices? -/
def nestT (N : Env) (tx : Nat) : Bool := match look N.E.T tx with
  | some ti => match ti.kd with
    | .slice e => match look N.E.T e with
      | some ei => hasSl ei.zero && !N.E.flat
      | none => false
    | _ => false
  | none => false
def appD (N : Env) (hS : List Ent) (tx ty : Nat) (x y : SV) (d : Option Nat) (st : St) (K : St → Prop) : Prop :=
  match look N.E.T tx with
  | some ti => match ti.kd with
    | .slice e => match look N.E.T e with
      | some ei => match y with
        | .c (.sl j off 1 1) => match Nat.beq tx ty, st.h[j]? with
          | true, some (.cells _ cs) => match Nat.beq off 0 && Nat.beq cs.length ei.size && !Nat.beq ei.size 0 with
            | true => appN N hS e ei.size ei.bytes x cs d st K
            | false => False
          | _, _ => False
        | .c (.row j) => match Nat.beq tx ty, (st.h[j]?).bind Ent.dview with
          | true, some (_, sz', m, get2) => match Nat.beq sz' ei.size && !Nat.beq ei.size 0 with
            | true => appM N hS e ei.size ei.bytes x m get2 d st K
            | false => False
          | _, _ => False
        | _ => False
      | none => False
    | _ => False
  | none => False

/-- The first bytes of a string as cells. -/
def bytesC (A : Arith) (l : List UInt8) : Nat → Nat → List CV
  | _, 0 => []
  | j, n + 1 => .int .u8 (A.byteAt l j) :: bytesC A l (j + 1) n
def copyK (N : Env) (hS : List Ent) (tx ty : Nat) (x y : SV) (d : Option Nat) (st : St) (K : St → Prop) : Prop :=
  match x, y, look N.E.T tx with
  | .c (.sl k off len cap), .c (.str l), some ti => match ti.kd, st.h[k]? with
    | .slice e, some (.cells t cs) => match Nat.ble (off + len) cs.length && maskedAt hS k, look N.E.T e with
      | true, some _ => Need (N.A.leL len l) (K ⟨put st.t d (.c (.int .i64 (N.A.natI len))), st.h.set k (.cells t (setMany cs off (bytesC N.A l 0 len)))⟩)
      | _, _ => False
    | _, _ => False
  | _, _, _ => False

def zeros : Nat → List CV → List CV
  | 0, _ => []
  | n + 1, l => l ++ zeros n l

/-- A slice made with so many zeros. -/
def mkK (N : Env) (t : Nat) (x y : SV) (d : Option Nat) (st : St) (K : St → Prop) : Prop :=
  match x, y, look N.E.T t with
  | .c (.int _ l), .c (.int _ c), some i => match i.kd with
    | .slice e => match look N.E.T e with
      | some ei => match !Nat.beq ei.size 0 with
        | true => Need (N.A.mkOk l c ei.bytes) (K ⟨put st.t d (.c (.row st.h.length)), st.h ++ [.row e ei.size (N.A.natOf l) fun _ => ei.zero]⟩)
        | false => False
      | none => False
    | _ => False
  | _, _, _ => False
/-- A record is put into a map; what its pointer leads to lies still from then on. -/
noncomputable def updQ (N : Env) (hS : List Ent) (t j : Nat) (k : SV) (cs : List CV) (d : Option Nat) (st : St) (K : St → Prop) : Prop :=
  match mapTyQ N.E t, st.h[j]? with
  | some mt', some (.mq mt l) => match (mt'.gs == mt.gs) && maskedAt hS j, keyC mt.gs k, recC mt.ks cs with
    | true, some kv, some (ns, a) => match st.h[a]? with
      | some (.cells T [.row i]) => match st.h[i]? with
        | some (.row e sz n get) => match Nat.beq T mt.T && Nat.beq e mt.e && Nat.beq sz mt.sz && maskedAt hS a && maskedAt hS i with
          | true => K ⟨put st.t d .und, ((st.h.set a .dead).set i .dead).set j (.mq mt (mqSet kv ⟨numL ns, n, get⟩ l))⟩
          | false => False
        | _ => False
      | _ => False
    | _, _, _ => False
  | _, _ => False
def stepRun (N : Env) (hS : List Ent) (o : Oper) (st : St) (K : St → Prop) : Prop :=
  match o.op with
  | .alloc t => match look N.E.T t with
    | some i => K ⟨put st.t o.dst (.c (.ptr st.h.length 0)), st.h ++ [.cells t i.zero]⟩
    | none => False
  | .box t x => match svCells (ev st.t x) with
    | some cs => K ⟨put st.t o.dst (.c (.ptr st.h.length 0)), st.h ++ [.cells t cs]⟩
    | none => False
  | .load t x => match pev N.A N.E st.h (ev st.t) (.load t x) with
    | .no => loadN N t (ev st.t x) o.dst st K
    | r => pevK r st.t o.dst fun t => K ⟨t, st.h⟩
  | .store t a x => match isOrow st.h (ev st.t a) with
    | true => storeN N hS t (ev st.t a) (ev st.t x) o.dst st K
    | false => storeK N hS t (ev st.t a) (ev st.t x) o.dst st K
  | .buildSlice t len parts => match look N.E.T t with
    | some i => match i.kd with
      | .slice e => match look N.E.T e with
        | some ei => match Nat.beq len 0 with
         | true => match parts.toList, hasSl ei.zero && !N.E.flat with
          | [], false => K ⟨put st.t o.dst (.c (.row st.h.length)), st.h ++ [.row e ei.size 0 fun _ => []]⟩
          | [], true => K ⟨put st.t o.dst (.c (.row st.h.length)), st.h ++ [.orow e ei.size 0 fun _ _ => .pl .tt]⟩
          | _, _ => False
         | false => match fillC (fun i => some (i * ei.size, ei.size)) (zeros len ei.zero) (parts.toList.map fun p => (p.1, ev st.t p.2)) with
          | some cs => match Nat.ble (len * ei.size) 16777216 && !Nat.beq ei.size 0 && !Nat.beq len 0 with
            | true => K ⟨put st.t o.dst (.c (.sl st.h.length 0 len len)), st.h ++ [.cells e cs]⟩
            | false => False
          | none => False
        | none => False
      | _ => False
    | none => False
  | .makeSlice t x y => match N.E.mks with
   | true => mkK N t (ev st.t x) (ev st.t y) o.dst st K
   | false => match ev st.t x, ev st.t y with
    | .c (.int _ l), .c (.int _ c) => match l, c, look N.E.T t with
      | .ofNat l, .ofNat c, some i => match i.kd with
        | .slice e => match look N.E.T e with
          | some ei => match Nat.beq l c && Nat.ble (l * ei.size) 16777216 && Nat.ble (ei.bytes * l) 16777216 && !Nat.beq ei.size 0 && !Nat.beq l 0 with
            | true => K ⟨put st.t o.dst (.c (.sl st.h.length 0 l l)), st.h ++ [.cells e (zeros l ei.zero)]⟩
            | false => False
          | none => False
        | _ => False
      | _, _, _ => False
    | _, _ => False
  | .makeMap t none => match mapTy N.E t with
    | some gs => K ⟨put st.t o.dst (.c (.row st.h.length)), st.h ++ [.mp gs []]⟩
    | none => match mapTyQ N.E t with
      | some mt => K ⟨put st.t o.dst (.c (.row st.h.length)), st.h ++ [.mq mt []]⟩
      | none => False
  | .mapUpdate t m k v => match ev st.t m, ev st.t v with
    | .c (.row j), .c (.int .i64 n) => match mapTy N.E t, st.h[j]? with
      | some gs, some (.mp gs' l) => match (gs == gs') && maskedAt hS j, keyC gs (ev st.t k) with
        | true, some kv => K ⟨put st.t o.dst .und, st.h.set j (.mp gs (mpSet kv n l))⟩
        | _, _ => False
      | _, _ => False
    | .c (.row j), .agg cs => updQ N hS t j (ev st.t k) cs o.dst st K
    | _, _ => False
  | .lookup t m k cm => match lookQ N.E st.h t (ev st.t m) (ev st.t k) with
    | some (mt, zk, kv, l) => Ife (mqHas kv l)
      (K ⟨put st.t o.dst (resQ cm (numsC mt.ks (mqNum kv l) 0 ++ [.eptr st.h.length 0 1 0]) .tt), st.h ++ [.data false mt.T 1 1 fun _ _ => .es false mt.e mt.sz (mqN kv l) (mqRow kv l)]⟩)
      (K ⟨put st.t o.dst (resQ cm (numsC zk (fun _ => 0) 0 ++ [.val (.pointer none)]) .ff), st.h⟩)
    | none => pevK (pev N.A N.E st.h (ev st.t) (.lookup t m k cm)) st.t o.dst fun t => K ⟨t, st.h⟩
  | .convert s d x => match ev st.t x with
    | .c (.str l) => match look N.E.T s, look N.E.T d with
      | some si, some di => match di.kd with
        | .slice e => match isU8 N.E e with
          | true => Need (N.A.fitL l []) (K ⟨put st.t o.dst (.c (.row st.h.length)), st.h ++ [.bytes e l]⟩)
          | false => False
        | _ => pevK (pev N.A N.E st.h (ev st.t) (.convert s d x)) st.t o.dst fun t => K ⟨t, st.h⟩
      | _, _ => False
    | _ => pevK (pev N.A N.E st.h (ev st.t) (.convert s d x)) st.t o.dst fun t => K ⟨t, st.h⟩
  | .call c => match c.callee with
    | .value (.func f) => callK N hS f (c.args.toList.map (ev st.t)) o.dst st K
    | .value (.tmp i) => match ev st.t (.tmp i) with
      | .fn f cs => callK N hS f (c.args.toList.map (ev st.t) ++ cs.map .c) o.dst st K
      | _ => False
    | .builtin .append => match c.args, c.argTypes with
      | ⟨[x, y]⟩, ⟨[tx, ty]⟩ => match nestT N tx with
        | true => appD N hS tx ty (ev st.t x) (ev st.t y) o.dst st K
        | false => appK N hS tx ty (ev st.t x) (ev st.t y) o.dst st K
      | _, _ => False
    | .builtin .copy => match c.args, c.argTypes with
      | ⟨[x, y]⟩, ⟨[tx, ty]⟩ => copyK N hS tx ty (ev st.t x) (ev st.t y) o.dst st K
      | _, _ => False
    | _ => pevK (pev N.A N.E st.h (ev st.t) (.call c)) st.t o.dst fun t => K ⟨t, st.h⟩
  | op => pevK (pev N.A N.E st.h (ev st.t) op) st.t o.dst fun t => K ⟨t, st.h⟩

def guarded (ops : List Oper) (o : Oper) (st : St) (yes no : St → Prop) : Prop :=
  match o.guard with
  | none => yes st
  | some (j, want) => match (ops[j]?).bind (·.dst) with
    | some d => match st.t.getD d .und with
      | .c .tt => match want with | true => yes st | false => no st
      | .c .ff => match want with | true => no st | false => yes st
      | .c (.bool b) =>
        Ife b (match want with | true => yes ⟨st.t.set d (.c .tt), st.h⟩ | false => no ⟨st.t.set d (.c .tt), st.h⟩)
          (match want with | true => no ⟨st.t.set d (.c .ff), st.h⟩ | false => yes ⟨st.t.set d (.c .ff), st.h⟩)
      | .und => no st
      | _ => False
    | none => False

def runL (N : Env) (ops : List Oper) : List Oper → St → (St → Prop) → Prop
  | [], st, K => K st
  | o :: r, st, K => guarded ops o st (fun st => stepRun N [] o st (fun st' => runL N ops r st' K)) (fun st => runL N ops r ⟨put st.t o.dst .und, st.h⟩ K)

def rgn (N : Env) (ops : List Oper) (hS : List Ent) : List (Nat × Bool) → St → (St → Prop) → Prop
  | [], st, K => K st
  | (i, tk) :: p, st, K => match ops[i]? with
    | none => False
    | some o => guarded ops o st
      (fun st => match tk with
        | true => pevK (pev N.A N.E hS (ev st.t) o.op) st.t o.dst fun t => rgn N ops hS p ⟨t, st.h⟩ K
        | false => stepRun N hS o st (fun st' => rgn N ops hS p st' K))
      (fun st => rgn N ops hS p ⟨put st.t o.dst .und, st.h⟩ K)

/-- A plan of a drawn region in which several operations may come up: a tree. -/
inductive PT where
  | nil | take (i : Nat) (p : PT) | step (i : Nat) (p : PT) | alt (i : Nat) (p q : PT)
def decT : Nat → List (Nat × Bool) → Option (PT × List (Nat × Bool))
  | 0, _ => none
  | _, [] => none
  | f + 1, (i, true) :: p => match decT f p with
    | some (t, r) => some (.take i t, r)
    | none => none
  | f + 1, (i, false) :: p => match Nat.beq i 2999 with
    | true => some (.nil, p)
    | false => match Nat.ble 3000 i with
      | true => match decT f p with
        | some (t, r) => match decT f r with
          | some (u, s) => some (.alt (i - 3000) t u, s)
          | none => none
        | none => none
      | false => match decT f p with
        | some (t, r) => some (.step i t, r)
        | none => none
/-- Such a plan begins with the number 9999; then the tree, each node ahead of its parts; 3000 and more: a choice; 2999: the end. -/
def treeP : List (Nat × Bool) → Option PT
  | [] => none
  | (i, _) :: q => match Nat.beq i 9999 with
    | true => match decT (q.length + 1) q with
      | some (t, _) => some t
      | none => none
    | false => none
def headsT : PT → List Nat
  | .nil => []
  | .take i _ => [i]
  | .step i _ => [i]
  | .alt i _ q => i :: headsT q
def depthT : PT → Nat
  | .nil => 0
  | .take _ p => depthT p + 1
  | .step _ p => depthT p + 1
  | .alt _ p q => max (depthT p + 1) (depthT q)
structure Both (p q : Prop) : Prop where
  l : p
  r : q
def rgnT (N : Env) (ops : List Oper) (hS : List Ent) : PT → St → (St → Prop) → Prop
  | .nil, st, K => K st
  | .take i p, st, K => match ops[i]? with
    | none => False
    | some o => guarded ops o st
      (fun st => pevK (pev N.A N.E hS (ev st.t) o.op) st.t o.dst fun t => rgnT N ops hS p ⟨t, st.h⟩ K)
      (fun st => rgnT N ops hS p ⟨put st.t o.dst .und, st.h⟩ K)
  | .step i p, st, K => match ops[i]? with
    | none => False
    | some o => guarded ops o st
      (fun st => stepRun N hS o st (fun st' => rgnT N ops hS p st' K))
      (fun st => rgnT N ops hS p ⟨put st.t o.dst .und, st.h⟩ K)
  | .alt i p q, st, K => Both (match ops[i]? with
    | none => False
    | some o => guarded ops o st
      (fun st => stepRun N hS o st (fun st' => rgnT N ops hS p st' K))
      (fun st => rgnT N ops hS p ⟨put st.t o.dst .und, st.h⟩ K)) (rgnT N ops hS q st K)
/-- A drawn region whose last operations wait for all that stand ahead of them. -/
def headOps (ops : Array Oper) (n : Nat) : Array Oper := (ops.toList.take n).toArray
/-- Does operation i wait for operation j, at once or through others? -/
def befO (ops : Array Oper) : Nat → Nat → Nat → Bool
  | 0, _, _ => false
  | f + 1, i, j => match ops[i]? with
    | some o => o.after.toList.any (fun e => Region.binds .any e && Nat.beq e.on j) || o.after.toList.any (fun e => Region.binds .any e && befO ops f e.on j)
    | none => false
def cutOk (ops : Array Oper) (n : Nat) : Bool :=
  Nat.ble n ops.size && ((List.range n).all fun i => match ops[i]? with
    | some o => o.after.toList.all (fun e => Nat.blt e.on i) && (match o.guard with
      | none => true
      | some (j, _) => Nat.blt j n)
    | none => false) && ((List.range ops.size).all fun i => Nat.blt i n || ((List.range n).all fun j => befO ops 6 i j))
def headL (m n : Nat) : Array Bool := ((List.range m).map fun i => Nat.blt i n).toArray
def deads : List Ent → List Ent
  | [] => []
  | _ :: h => .dead :: deads h
/-- A plan in two parts: where it parts stands a number from 1000 on. -/
def partP : List (Nat × Bool) → Option (Nat × List (Nat × Bool) × List (Nat × Bool))
  | [] => none
  | (i, tk) :: p => match Nat.ble 1000 i with
    | true => some (i - 1000, [], p)
    | false => match partP p with
      | some (n, a, b) => some (n, (i, tk) :: a, b)
      | none => none
/-- A plan may open with marks: entries (numbers from 2000 on) that this region may write. -/
def marks : List (Nat × Bool) → List Nat × List (Nat × Bool)
  | [] => ([], [])
  | (i, b) :: p => match Nat.ble 2000 i with
    | true => ((i - 2000) :: (marks p).1, (marks p).2)
    | false => ([], (i, b) :: p)
def lookR : List (Nat × List (Nat × Bool)) → Nat → Option (List (Nat × Bool))
  | [], _ => none
  | (u, i) :: r, t => if u == t then some i else lookR r t

/-- The entries that a drawn region may not write: all but those that are named. -/
def mask : List Nat → Nat → List Ent → List Ent
  | _, _, [] => []
  | M, k, e :: h => (if M.contains k then .dead else e) :: mask M (k + 1) h

def tryCond (v : SV) (t : List SV) (c : Operand) (yes no : List SV → Prop) : Prop :=
  match v with
  | .c .tt => yes t
  | .c .ff => no t
  | .c (.bool b) => match c with
    | .tmp i => Ife b (yes (t.set i (.c .tt))) (no (t.set i (.c .ff)))
    | _ => Ife b (yes t) (no t)
  | _ => False

/-- A loop of at most so many rounds, each carried out. -/
def loopN (f : St → (Ex → St → Prop) → Prop) : Nat → St → (Ex → St → Prop) → Prop
  | 0, _, _ => False
  | n + 1, st, K => f st fun e st' => match e with
    | .normal => loopN f n st' K
    | e => K e st'

def exec (N : Env) (M : List Nat) : Code → St → (Ex → St → Prop) → Prop
  | .skip, st, K => K .normal st
  | .region id ops false, st, K => runL N ops.toList ops.toList st (K .normal)
  | .region id ops true, st, K => match lookR N.R id with
    | some p => match treeP p with
     | some t => rgnT N ops.toList (mask M 0 st.h) t st (K .normal)
     | none => match partP (marks p).2 with
      | none => rgn N ops.toList (mask ((marks p).1 ++ M) 0 st.h) (marks p).2 st (K .normal)
      | some (n, p1, p2) => rgn N (headOps ops n).toList (mask ((marks p).1 ++ M) 0 st.h) p1 st fun st' => rgn N ops.toList (deads st'.h) p2 st' (K .normal)
    | none => False
  | .seq a b, st, K => exec N M a st fun e st' => match e with
    | .normal => exec N M b st' K
    | e => K e st'
  | .cond c x y, st, K => tryCond (ev st.t c) st.t c (fun t => exec N M x ⟨t, st.h⟩ K) (fun t => exec N M y ⟨t, st.h⟩ K)
  | .block id c, st, K => exec N M c st fun e st' => match e with
    | .exit j => if j == id then K .normal st' else K (.exit j) st'
    | e => K e st'
  | .loop c, st, K => match N.U with
    | 0 => N.L c st K
    | n + 1 => loopN (fun st K => exec N M c st K) (n + 1) st K
  | .exit id, st, K => K (.exit id) st
  | .ret, st, K => K .ret st
  | .label _, st, K => K .normal st
  | _, _, _ => False

def planOk (ops : Array Oper) : Array Bool → List (Nat × Bool) → Bool
  | listed, [] => (Region.ready .any ops listed).isEmpty
  | listed, (i, tk) :: p => (match tk with
    | true => Region.free .any ops listed i && (Region.ready .any ops listed).contains i
    | false => Region.ready .any ops listed == [i]) && planOk ops (listed.setIfInBounds i true) p

def planOkT (ops : Array Oper) : Bool → Array Bool → PT → Bool
  | chk, listed, .nil => chk && (Region.ready .any ops listed).isEmpty
  | chk, listed, .take i p => chk && Region.free .any ops listed i && (Region.ready .any ops listed).contains i && planOkT ops true (listed.setIfInBounds i true) p
  | chk, listed, .step i p => (!chk || Region.ready .any ops listed == [i]) && planOkT ops true (listed.setIfInBounds i true) p
  | chk, listed, .alt i p q => (!chk || Region.ready .any ops listed == i :: headsT q) && planOkT ops true (listed.setIfInBounds i true) p && planOkT ops false listed q
def codeOk (R : List (Nat × List (Nat × Bool))) : Code → Bool
  | .region id ops true => match lookR R id with
    | some p => match treeP p with
     | some t => Region.noSelect ops && Nat.ble (depthT t) ops.size && planOkT ops true (Array.replicate ops.size false) t
     | none => match partP (marks p).2 with
      | none => Region.noSelect ops && Nat.ble (marks p).2.length ops.size && planOk ops (Array.replicate ops.size false) (marks p).2
      | some (n, p1, p2) => Region.noSelect ops && Region.noSelect (headOps ops n) && cutOk ops n && Nat.ble p1.length n && Nat.ble p2.length (ops.size - n) && planOk (headOps ops n) (Array.replicate ops.size false) p1 && planOk ops (headL ops.size n) p2
    | none => false
  | .seq a b => codeOk R a && codeOk R b
  | .cond _ x y => codeOk R x && codeOk R y
  | .block _ c => codeOk R c
  | .loop c => codeOk R c
  | _ => true

noncomputable def retVal (A : Arith) (E : Tbl) (st : St) : ResultVar → Option SV
  | .tmp t => some (st.t.getD t .und)
  | .cell a t => match loadR A E st.h t (st.t.getD a .und) with
    | .ok v => some v
    | _ => none

def eltOf : SV → Option (Option CV × List CV)
  | .c x => some (some x, [])
  | .agg cs => some (none, cs)
  | _ => none

def eltsOf : List (Option SV) → Option (List (Option CV × List CV))
  | [] => some []
  | some v :: r => match eltOf v, eltsOf r with
    | some e, some es => some (e :: es)
    | _, _ => none
  | none :: _ => none

def fin (A : Arith) (E : Tbl) (res : List ResultVar) (Q : SV → List Ent → Prop) (e : Ex) (st : St) : Prop :=
  match e with
  | .exit _ => False
  | _ => match res with
    | [x] => match retVal A E st x with
      | some v => Q v st.h
      | none => False
    | xs => match eltsOf (xs.map (retVal A E st)) with
      | some es => Q (.tup es) st.h
      | none => False
end Go.Proofs.Ytcgoaicifjndpaa.Vx
