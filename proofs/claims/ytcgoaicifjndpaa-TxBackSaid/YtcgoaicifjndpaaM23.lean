/- Packets, by the walker. -/
import Derived.Test.YtcgoaicifjndpaaPacket
import Derived.Test.YtcgoaicifjndpaaM20
import Derived.Test.YtcgoaicifjndpaaM19
section
namespace Go.Proofs.Ytcgoaicifjndpaa
open Go.RowKit
set_option linter.unusedVariables false
set_option linter.unusedSimpArgs false
deriving instance DecidableEq for Pkt
namespace Vx
def pkC (p : Pkt) : List CV := [.str p.sp, .int .i64 p.sc, .str p.dp, .int .i64 p.dc, .int .i64 p.seq, .str p.data, .int .i64 p.th, .int .i64 p.ta]

def sMayPk : List SV → Option (Prop × SV)
  | [.agg [.str sp, .int .i64 sc, .str dp, .int .i64 dc, .int .i64 sq, .str da, .int .i64 th, .int .i64 ta]] => some (Pkt.fits ⟨sp, sc, dp, dc, sq, da, th, ta⟩, .c (.bool (mayPkt ⟨sp, sc, dp, dc, sq, da, th, ta⟩)))
  | _ => none


def sLightPk : List SV → Option (Prop × SV)
  | [.agg [.str sp, .int .i64 sc, .str dp, .int .i64 dc, .int .i64 sq, .str da, .int .i64 th, .int .i64 ta]] => some (Pkt.fits ⟨sp, sc, dp, dc, sq, da, th, ta⟩, .c (.bool (lightPkt ⟨sp, sc, dp, dc, sq, da, th, ta⟩)))
  | _ => none





theorem mayPkP : Pure Try.prog 103 sMayPk := by
  refine ⟨by kernel_rfl, fun args pre r h hp us hs W => ?_⟩
  unfold sMayPk at h
  split at h
  rotate_left
  · cases h
  rename_i sp sc dp dc sq da th ta
  cases h
  obtain ⟨_, _, rfl, ⟨v0, a0, rfl⟩, b0⟩ := hs
  obtain rfl := a0.unique (show IsL [] _ [.string ⟨(sp).toArray⟩, .int .i64 sc, .string ⟨(dp).toArray⟩, .int .i64 dc, .int .i64 sq, .string ⟨(da).toArray⟩, .int .i64 th, .int .i64 ta] from rfl)
  cases b0
  refine Calls.mono (packetMay ⟨sp, sc, dp, dc, sq, da, th, ta⟩ W hp) fun e W' he => ?_
  obtain ⟨rfl, hb⟩ := he
  exact ⟨_, rfl, rfl, hb⟩


theorem lightPkP : Pure Try.prog 99 sLightPk := by
  refine ⟨by kernel_rfl, fun args pre r h hp us hs W => ?_⟩
  unfold sLightPk at h
  split at h
  rotate_left
  · cases h
  rename_i sp sc dp dc sq da th ta
  cases h
  obtain ⟨_, _, rfl, ⟨v0, a0, rfl⟩, b0⟩ := hs
  obtain rfl := a0.unique (show IsL [] _ [.string ⟨(sp).toArray⟩, .int .i64 sc, .string ⟨(dp).toArray⟩, .int .i64 dc, .int .i64 sq, .string ⟨(da).toArray⟩, .int .i64 th, .int .i64 ta] from rfl)
  cases b0
  refine Calls.mono (lightPacket ⟨sp, sc, dp, dc, sq, da, th, ta⟩ W hp) fun e W' he => ?_
  obtain ⟨rfl, hb⟩ := he
  exact ⟨_, rfl, rfl, hb⟩




end Vx
end Go.Proofs.Ytcgoaicifjndpaa
end

section
/- Messages as data: their cells; light ones, plain ones, by the walker. -/
namespace Go.Proofs.Ytcgoaicifjndpaa.Vx
open Go.RowKit
set_option linter.unusedVariables false
set_option linter.unusedSimpArgs false
/-- A message; the root by its 32 numbers. -/
structure PMsg where
  kind : Int
  hh : Int
  ht : Int
  hr : List Int
  pk : Pkt
  ack : List UInt8
  next : Int
  height : Int
  pc : Int
  pl : List PLeaf
  cc : Int
  cl : List PLeaf
deriving DecidableEq
def rN (l : List Int) (j : Nat) : Int := l.getD j 0
/-- The cells of a message; a and b: the cells of its proofs' leaves. -/
def msgCP (zp0 : type_of% @rN) (m : PMsg) (a b : CV) : List CV :=
  .int .i64 m.kind :: .int .i64 m.hh :: .int .i64 m.ht :: (h32 (zp0 m.hr) ++ (pkC m.pk ++ [.str m.ack, .int .i64 m.next, .int .i64 m.height, .int .i64 m.pc, a, .int .i64 m.cc, b]))
@[reducible] def msgC := msgCP rN
def cvI : CV → Int
  | .int _ n => n
  | _ => 0
def cvS : CV → List UInt8
  | .str s => s
  | _ => []
/-- A message, of its cells. -/
def msgOf (cs : List CV) (n : Nat) (get : Nat → Nat → Cell) (n' : Nat) (get' : Nat → Nat → Cell) : PMsg :=
  ⟨cvI (cs.getD 0 .tt), cvI (cs.getD 1 .tt), cvI (cs.getD 2 .tt), ((cs.drop 3).take 32).map vInt,
    ⟨cvS (cs.getD 35 .tt), cvI (cs.getD 36 .tt), cvS (cs.getD 37 .tt), cvI (cs.getD 38 .tt), cvI (cs.getD 39 .tt), cvS (cs.getD 40 .tt), cvI (cs.getD 41 .tt), cvI (cs.getD 42 .tt)⟩,
    cvS (cs.getD 43 .tt), cvI (cs.getD 44 .tt), cvI (cs.getD 45 .tt), cvI (cs.getD 46 .tt), leafL n get, cvI (cs.getD 48 .tt), leafL n' get'⟩
structure MsgFit (m : PMsg) : Prop where
  pk : m.pk.fits
  ack : m.ack.length ≤ 1000000000
  len : m.hr.length = 32
  by' : ∀ b ∈ m.hr, 0 ≤ b ∧ b < 256
theorem msgOf_msgC {m : PMsg} (h : m.hr.length = 32) {a b : CV} {n n' : Nat} {get get' : Nat → Nat → Cell} (h1 : leafL n get = m.pl) (h2 : leafL n' get' = m.cl) : msgOf (msgC m a b) n get n' get' = m := by
  obtain ⟨k, hh, ht, hr, ⟨sp, sc, dp, dc, sq, da, th, ta⟩, ack, nx, hg, pc, pl, cc, cl⟩ := m
  have e : (((msgC ⟨k, hh, ht, hr, ⟨sp, sc, dp, dc, sq, da, th, ta⟩, ack, nx, hg, pc, pl, cc, cl⟩ a b).drop 3).take 32).map vInt = hr := pG_vInt h
  unfold msgOf
  rw [e, h1, h2]
  rfl
/-- The cells cs show a message whose leaves stand at a and b. -/
def msgPre (cs : List CV) (a b : CV) (ty sz n : Nat) (get : Nat → Nat → Cell) (ty' sz' n' : Nat) (get' : Nat → Nat → Cell) : Prop :=
  cs = msgC (msgOf cs n get n' get') a b ∧ leavesPre ty sz n get ∧ leavesPre ty' sz' n' get' ∧ MsgFit (msgOf cs n get n' get')
/-- As msgPre, but of any size. -/
def msgPre0 (cs : List CV) (a b : CV) (ty sz n : Nat) (get : Nat → Nat → Cell) (ty' sz' n' : Nat) (get' : Nat → Nat → Cell) : Prop :=
  cs = msgC (msgOf cs n get n' get') a b ∧ leavesAt0 ty sz n get ∧ leavesAt0 ty' sz' n' get' ∧ (msgOf cs n get n' get').pk.fits
def lightM (m : PMsg) : Bool := lightPkt m.pk && (decide (m.ack.length ≤ 100) && (lightL m.pl && lightL m.cl))
def noRt : List Int := [0, 0, 0, 0, 0, 0, 0, 0, 0, 0, 0, 0, 0, 0, 0, 0, 0, 0, 0, 0, 0, 0, 0, 0, 0, 0, 0, 0, 0, 0, 0, 0]
def noPkt : Pkt := ⟨[], 0, [], 0, 0, [], 0, 0⟩
/-- A message without what its kind does not have. -/
def plainM (m : PMsg) : PMsg :=
  if m.kind = 1 then ⟨m.kind, m.hh, m.ht, m.hr, noPkt, [], 0, 0, 0, [], 0, []⟩
  else if m.kind = 2 then ⟨m.kind, 0, 0, noRt, m.pk, [], 0, m.height, m.pc, m.pl, 0, []⟩
  else if m.kind = 3 then ⟨m.kind, 0, 0, noRt, m.pk, m.ack, 0, m.height, m.pc, m.pl, 0, []⟩
  else if m.kind = 4 then ⟨m.kind, 0, 0, noRt, m.pk, [], m.next, m.height, m.pc, m.pl, 0, []⟩
  else if m.kind = 5 then ⟨m.kind, 0, 0, noRt, m.pk, [], m.next, m.height, m.pc, m.pl, m.cc, m.cl⟩
  else ⟨m.kind, 0, 0, noRt, noPkt, [], 0, 0, 0, [], 0, []⟩
theorem leavesPre_n {fr : Bool} {l : List PLeaf} {n : Nat} (hL : l.length = n) (hok : ∀ x ∈ l, x.ok) (hn : n ≤ 1000000) : leavesPre 140 4 n fun i j => (leafG fr l i j).old := by
  subst hL; exact leavesPre_old hok hn
theorem leavesL_n {fr : Bool} {l : List PLeaf} {n : Nat} (hL : l.length = n) (hok : ∀ x ∈ l, x.ok) : leafL n (fun i j => (leafG fr l i j).old) = l := by
  subst hL; exact leaves_old hok
def lenL (l : List PLeaf) : Nat := l.length
def tbM : Tbl where
  T :=
    (3, ⟨1, false, [.int .i64 (0)], .int .i64, 8⟩) ::
    (4, ⟨1, false, [.ff], .bool, 1⟩) ::
    (9, ⟨1, false, [.str []], .str, 16⟩) ::
    (140, ⟨4, true, [.str [], .str [], .int .i64 (0), .val (.slice none 0 0)], .struct [(0, (1, false)), (1, (1, false)), (2, (1, false)), (3, (1, false))], 64⟩) ::
    (70, ⟨1, false, [.val (.slice none 0 0)], .slice 140, 24⟩) ::
    (72, ⟨2, true, [.int .i64 (0), .val (.slice none 0 0)], .struct [(0, (1, false)), (1, (1, false))], 32⟩) ::
    (63, ⟨32, true, [.int .u8 (0), .int .u8 (0), .int .u8 (0), .int .u8 (0), .int .u8 (0), .int .u8 (0), .int .u8 (0), .int .u8 (0), .int .u8 (0), .int .u8 (0), .int .u8 (0), .int .u8 (0), .int .u8 (0), .int .u8 (0), .int .u8 (0), .int .u8 (0), .int .u8 (0), .int .u8 (0), .int .u8 (0), .int .u8 (0), .int .u8 (0), .int .u8 (0), .int .u8 (0), .int .u8 (0), .int .u8 (0), .int .u8 (0), .int .u8 (0), .int .u8 (0), .int .u8 (0), .int .u8 (0), .int .u8 (0), .int .u8 (0)], .array 32 5, 32⟩) ::
    (138, ⟨1, false, [.val (.slice none 0 0)], .slice 63, 24⟩) ::
    (5, ⟨1, false, [.int .u8 (0)], .int .u8, 1⟩) ::
    (74, ⟨50, true, [.int .i64 (0), .int .i64 (0), .int .i64 (0), .int .u8 (0), .int .u8 (0), .int .u8 (0), .int .u8 (0), .int .u8 (0), .int .u8 (0), .int .u8 (0), .int .u8 (0), .int .u8 (0), .int .u8 (0), .int .u8 (0), .int .u8 (0), .int .u8 (0), .int .u8 (0), .int .u8 (0), .int .u8 (0), .int .u8 (0), .int .u8 (0), .int .u8 (0), .int .u8 (0), .int .u8 (0), .int .u8 (0), .int .u8 (0), .int .u8 (0), .int .u8 (0), .int .u8 (0), .int .u8 (0), .int .u8 (0), .int .u8 (0), .int .u8 (0), .int .u8 (0), .int .u8 (0), .str [], .int .i64 (0), .str [], .int .i64 (0), .int .i64 (0), .str [], .int .i64 (0), .int .i64 (0), .str [], .int .i64 (0), .int .i64 (0), .int .i64 (0), .val (.slice none 0 0), .int .i64 (0), .val (.slice none 0 0)], .struct [(0, (1, false)), (1, (34, true)), (35, (8, true)), (43, (1, false)), (44, (1, false)), (45, (1, false)), (46, (2, true)), (48, (2, true))], 240⟩) ::
    (65, ⟨34, true, [.int .i64 (0), .int .i64 (0), .int .u8 (0), .int .u8 (0), .int .u8 (0), .int .u8 (0), .int .u8 (0), .int .u8 (0), .int .u8 (0), .int .u8 (0), .int .u8 (0), .int .u8 (0), .int .u8 (0), .int .u8 (0), .int .u8 (0), .int .u8 (0), .int .u8 (0), .int .u8 (0), .int .u8 (0), .int .u8 (0), .int .u8 (0), .int .u8 (0), .int .u8 (0), .int .u8 (0), .int .u8 (0), .int .u8 (0), .int .u8 (0), .int .u8 (0), .int .u8 (0), .int .u8 (0), .int .u8 (0), .int .u8 (0), .int .u8 (0), .int .u8 (0)], .struct [(0, (1, false)), (1, (1, false)), (2, (32, true))], 48⟩) ::
    (69, ⟨8, true, [.str [], .int .i64 (0), .str [], .int .i64 (0), .int .i64 (0), .str [], .int .i64 (0), .int .i64 (0)], .struct [(0, (2, true)), (2, (2, true)), (4, (1, false)), (5, (1, false)), (6, (1, false)), (7, (1, false))], 88⟩) ::
    (67, ⟨2, true, [.str [], .int .i64 (0)], .struct [(0, (1, false)), (1, (1, false))], 24⟩) ::
    []
  F :=
    (63, [0, 0, 0, 0, 0, 0, 0, 0, 0, 0, 0, 0, 0, 0, 0, 0, 0, 0, 0, 0, 0, 0, 0, 0, 0, 0, 0, 0, 0, 0, 0, 0]) ::
    []

theorem tbM_ok : tbM.Ok Try.prog where
  T :=
    TblOk.cons (by kernel_rfl) <|
    TblOk.cons (by kernel_rfl) <|
    TblOk.cons (by kernel_rfl) <|
    TblOk.cons (by kernel_rfl) <|
    TblOk.cons (by kernel_rfl) <|
    TblOk.cons (by kernel_rfl) <|
    TblOk.cons (by kernel_rfl) <|
    TblOk.cons (by kernel_rfl) <|
    TblOk.cons (by kernel_rfl) <|
    TblOk.cons (by kernel_rfl) <|
    TblOk.cons (by kernel_rfl) <|
    TblOk.cons (by kernel_rfl) <|
    TblOk.cons (by kernel_rfl) <|
    TblOk.nil _
  F :=
    FlatsOk.cons (FlatOk.of (D := .array 32 5) 6 (by decide) (by kernel_rfl) (by kernel_rfl) rfl (by kernel_rfl)) <|
    FlatsOk.nil _

def sLightM : SpecF
  | [.agg cs], [.data fr ty sz n get, .data fr' ty' sz' n' get'] => some (msgPre0 cs (.row 0) (.row 1) ty sz n get ty' sz' n' get', .c (.bool (lightM (msgOf cs n get n' get'))), [.dead, .dead])
  | _, _ => none

def sPlainRM : SpecF
  | [.agg cs], [.data false ty sz n get, .data false ty' sz' n' get'] => some (msgPre cs (.row 0) (.row 1) ty sz n get ty' sz' n' get', .agg (msgC (plainM (msgOf cs n get n' get')) (.row 2) (.row 3)), [.dead, .dead, .data false 140 4 (lenL (plainM (msgOf cs n get n' get')).pl) (leafG false (plainM (msgOf cs n get n' get')).pl), .data false 140 4 (lenL (plainM (msgOf cs n get n' get')).cl) (leafG false (plainM (msgOf cs n get n' get')).cl)])
  | _, _ => none

def sPlainM : SpecF
  | [.agg cs], [.data false ty sz n get, .data false ty' sz' n' get'] => some (msgPre cs (.row 0) (.row 1) ty sz n get ty' sz' n' get', .agg (msgC (plainM (msgOf cs n get n' get')) (.row 2) (.row 3)), [.dead, .dead, .data true 140 4 (lenL (plainM (msgOf cs n get n' get')).pl) (leafG true (plainM (msgOf cs n get n' get')).pl), .data true 140 4 (lenL (plainM (msgOf cs n get n' get')).cl) (leafG true (plainM (msgOf cs n get n' get')).cl)])
  | _, _ => none

set_option maxRecDepth 100000 in
set_option maxHeartbeats 8000000 in
theorem lightMP : Fn Try.prog 49 [] [(140, 204), (140, 204)] sLightM := by
  have hC : CtsOk Try.prog [(99, appPure sLightPk), (100, appFn [] [(140, 204)] sLightPr)] := CtsOk.cons (Pure.ct lightPkP) <| CtsOk.cons (Fn.ct lightPrP) <| CtsOk.nil _
  refine Fn.of (E := tbM) [] 0 [] tbM_ok hC (by kernel_rfl) Try.func49 rfl rfl rfl (by kernel_rfl) (by kernel_rfl) 2 5 1 ?_ ?_
  · intro args h pre r h' hs
    unfold sLightM at hs
    split at hs
    · cases hs; exact ⟨rfl, rfl, Nat.le_of_ble_eq_true rfl⟩
    · cases hs
  · intro args h pre r h' hs hp
    unfold sLightM at hs
    split at hs
    rotate_left
    · cases hs
    rename_i cs fr ty sz n get fr' ty' sz' n' get'
    cases hs
    obtain ⟨hcs, ⟨rfl, rfl, hst⟩, ⟨rfl, rfl, hst'⟩, hpk⟩ := hp
    have k1 := leaves0 hst
    have k2 := leaves0 hst'
    refine ⟨[.data fr 140 4 n (leafG false (leafL n get)), .data fr' 140 4 n' (leafG false (leafL n' get'))], ⟨⟨rfl, rfl, rfl, rfl, fun i j hi hj => by rw [hst i j hi hj]; exact Cell.le_refl _⟩, ⟨rfl, rfl, rfl, rfl, fun i j hi hj => by rw [hst' i j hi hj]; exact Cell.le_refl _⟩, trivial⟩, ?_⟩
    have hL : (leafL n get).length = n := leafL_len
    have hL' : (leafL n' get').length = n' := leafL_len
    have e1 : (msgOf cs n get n' get').pl = leafL n get := rfl
    have e2 : (msgOf cs n get n' get').cl = leafL n' get' := rfl
    generalize msgOf cs n get n' get' = m at *
    subst hcs
    obtain ⟨k, hh, ht, hr, ⟨sp, sc, dp, dc, sq, da, th, ta⟩, ack, nx, hg, pc, pl, cc, cl⟩ := m
    replace e1 : pl = leafL n get := e1
    replace e2 : cl = leafL n' get' := e2
    clear hst hst'
    subst e1 e2
    generalize leafL n get = pl at *
    generalize leafL n' get' = cl at *
    unfold sLightPr sLightPk
    try unfold leafG
    generalize ho0 : @lK = zo0, ho1 : @lV = zo1, ho2 : @lI = zo2, ho3 : @lP = zo3, ho4 : @lN = zo4, ho5 : @pG = zo5, ho6 : @leafL = zo6, ho7 : @lightL = zo7, ho8 : @lightPkt = zo8, ho9 : @lightM = zo9, ho10 : @leavesAt0 = zo10, ho11 : @msgPre0 = zo11
    generalize hA : Arith.std = A
    cbv
    subst hA ho0 ho1 ho2 ho3 ho4 ho5 ho6 ho7 ho8 ho9 ho10 ho11
    refine Need.mk hpk fun _ => Ife.mk (fun h1 => ?_) (fun h1 => ?_)
    rotate_left
    · rw [show lightM ⟨k, hh, ht, hr, ⟨sp, sc, dp, dc, sq, da, th, ta⟩, ack, nx, hg, pc, pl, cc, cl⟩ = false from by simp [lightM, h1]]
      exact ⟨[0, 1], ⟨rfl, by repeat' (first | exact trivial | exact rfl | apply And.intro | exact (fun _ _ _ _ => Cell.le_refl _) | (intro i hi; rfl) | (intro i hi; exact absurd hi (Nat.not_lt_zero _))), by decide, rfl, by repeat' (first | exact trivial | exact rfl | apply And.intro | exact (fun _ _ _ _ => Cell.le_refl _) | (intro i hi; rfl) | (intro i hi; exact absurd hi (Nat.not_lt_zero _)))⟩⟩
    refine Ife.mk (fun h2 => ?_) (fun h2 => ?_)
    rotate_left
    · replace h2 : ¬ (ack.length : Int) ≤ 100 := of_decide_eq_false (p := (ack.length : Int) ≤ 100) h2
      rw [show lightM ⟨k, hh, ht, hr, ⟨sp, sc, dp, dc, sq, da, th, ta⟩, ack, nx, hg, pc, pl, cc, cl⟩ = false from by simp [lightM]; omega]
      exact ⟨[0, 1], ⟨rfl, by repeat' (first | exact trivial | exact rfl | apply And.intro | exact (fun _ _ _ _ => Cell.le_refl _) | (intro i hi; rfl) | (intro i hi; exact absurd hi (Nat.not_lt_zero _))), by decide, rfl, by repeat' (first | exact trivial | exact rfl | apply And.intro | exact (fun _ _ _ _ => Cell.le_refl _) | (intro i hi; rfl) | (intro i hi; exact absurd hi (Nat.not_lt_zero _)))⟩⟩
    replace h2 : (ack.length : Int) ≤ 100 := of_decide_eq_true (p := (ack.length : Int) ≤ 100) h2
    have h2' : ack.length ≤ 100 := by omega
    refine Need.mk (leavesAt0_of k1) fun _ => ?_
    rw [k1]
    refine Ife.mk (fun h3 => ?_) (fun h3 => ?_)
    rotate_left
    · rw [show lightM ⟨k, hh, ht, hr, ⟨sp, sc, dp, dc, sq, da, th, ta⟩, ack, nx, hg, pc, pl, cc, cl⟩ = false from by simp [lightM, h3]]
      exact ⟨[0, 1], ⟨rfl, by repeat' (first | exact trivial | exact rfl | apply And.intro | exact (fun _ _ _ _ => Cell.le_refl _) | (intro i hi; rfl) | (intro i hi; exact absurd hi (Nat.not_lt_zero _))), by decide, rfl, by repeat' (first | exact trivial | exact rfl | apply And.intro | exact (fun _ _ _ _ => Cell.le_refl _) | (intro i hi; rfl) | (intro i hi; exact absurd hi (Nat.not_lt_zero _)))⟩⟩
    refine Need.mk (leavesAt0_of k2) fun _ => ?_
    rw [k2, show lightM ⟨k, hh, ht, hr, ⟨sp, sc, dp, dc, sq, da, th, ta⟩, ack, nx, hg, pc, pl, cc, cl⟩ = lightL cl from by simp [lightM, h1, h2', h3]]
    exact ⟨[0, 1], ⟨rfl, by repeat' (first | exact trivial | exact rfl | apply And.intro | exact (fun _ _ _ _ => Cell.le_refl _) | (intro i hi; rfl) | (intro i hi; exact absurd hi (Nat.not_lt_zero _))), by decide, rfl, by repeat' (first | exact trivial | exact rfl | apply And.intro | exact (fun _ _ _ _ => Cell.le_refl _) | (intro i hi; rfl) | (intro i hi; exact absurd hi (Nat.not_lt_zero _)))⟩⟩


end Go.Proofs.Ytcgoaicifjndpaa.Vx
end

section
/- Plain messages, of the program, by the walker. -/
namespace Go.Proofs.Ytcgoaicifjndpaa.Vx
open Go.RowKit
set_option linter.unusedVariables false
set_option linter.unusedSimpArgs false
def nextB (k : Int) : Bool := decide (k = 4) || decide (k = 5)
def sBet : List SV → Option (Prop × SV)
  | [.c (.int .i64 v), .c (.int .i64 a), .c (.int .i64 b)] => some (True, .c (.bool (between v a b)))
  | _ => none

def sKind : List SV → Option (Prop × SV)
  | [.c (.int .i64 k)] => some (True, .c (.bool (between k 1 5)))
  | _ => none

def sNextK : List SV → Option (Prop × SV)
  | [.c (.int .i64 k)] => some (True, .c (.bool (nextB k)))
  | _ => none

set_option maxRecDepth 100000 in
set_option maxHeartbeats 400000 in
theorem betP : Pure Try.prog 102 sBet := by
  refine Pure.of (E := tbM) (C := []) [] 0 [] tbM_ok (CtsOk.nil _) (by kernel_rfl) Try.func102 rfl rfl rfl (by kernel_rfl) (by kernel_rfl) ?_ ?_
  · intro args pre r h
    unfold sBet at h
    split at h
    · cases h; first | rfl | exact ⟨rfl, rfl⟩
    · cases h
  · intro args pre r h hp
    unfold sBet at h
    split at h
    rotate_left
    · cases h
    rename_i v a b
    cases h
    generalize hg0 : between = g0
    generalize ho0 : @between = zo0
    generalize hA : Arith.std = A
    cbv
    subst hA hg0 ho0
    simp only [Ife_iff, Need_iff, Arith.std]
    by_cases h1 : a ≤ v <;> by_cases h2 : v ≤ b <;> simp [between, h1, h2]

set_option maxRecDepth 100000 in
set_option maxHeartbeats 400000 in
theorem kindP : Pure Try.prog 101 sKind := by
  refine Pure.of (E := tbM) (C := [(102, appPure sBet)]) [] 0 [] tbM_ok (CtsOk.cons (Pure.ct betP) <| CtsOk.nil _) (by kernel_rfl) Try.func101 rfl rfl rfl (by kernel_rfl) (by kernel_rfl) ?_ ?_
  · intro args pre r h
    unfold sKind at h
    split at h
    · cases h; first | rfl | exact ⟨rfl, rfl⟩
    · cases h
  · intro args pre r h hp
    unfold sKind at h
    split at h
    rotate_left
    · cases h
    rename_i k
    cases h
    unfold sBet
    generalize hg0 : between = g0
    generalize ho0 : @between = zo0
    generalize hA : Arith.std = A
    cbv
    subst hA hg0 ho0
    simp only [Ife_iff, Need_iff, Arith.std]
    simp

set_option maxRecDepth 100000 in
set_option maxHeartbeats 400000 in
theorem nextKP : Pure Try.prog 119 sNextK := by
  refine Pure.of (E := tbM) (C := []) [] 0 [] tbM_ok (CtsOk.nil _) (by kernel_rfl) Try.func119 rfl rfl rfl (by kernel_rfl) (by kernel_rfl) ?_ ?_
  · intro args pre r h
    unfold sNextK at h
    split at h
    · cases h; first | rfl | exact ⟨rfl, rfl⟩
    · cases h
  · intro args pre r h hp
    unfold sNextK at h
    split at h
    rotate_left
    · cases h
    rename_i k
    cases h
    generalize hg0 : nextB = g0
    generalize ho0 : @nextB = zo0
    generalize hA : Arith.std = A
    cbv
    subst hA hg0 ho0
    simp only [Ife_iff, Need_iff, Arith.std]
    by_cases h1 : k = 4 <;> by_cases h2 : k = 5 <;> simp [nextB, h1, h2]

set_option maxRecDepth 100000 in
set_option maxHeartbeats 8000000 in
theorem plainMP : Fn Try.prog 64 [] [(140, 204), (140, 204)] sPlainM := by
  have hC : CtsOk Try.prog [(101, appPure sKind), (119, appPure sNextK), (118, appFn [] [(140, 204)] sCopied)] := CtsOk.cons (Pure.ct kindP) <| CtsOk.cons (Pure.ct nextKP) <| CtsOk.cons (Fn.ct copiedP) <| CtsOk.nil _
  refine Fn.ofZ (E := tbM) [] 0 [(7, [(2004, false), (0, true), (1, true), (2, true), (3, true), (4, true), (5, true), (7, true), (6, false), (8, false), (9, true), (10, false), (11, true), (12, false)])] tbM_ok hC (by kernel_rfl) Try.func64 rfl rfl rfl (by kernel_rfl) (by kernel_rfl) 2 (.data true 140 4 0 fun _ _ => .pl .tt) rfl ?_ ?_
  · intro args h pre r h' hs
    unfold sPlainM at hs
    split at hs
    · cases hs; exact ⟨rfl, rfl, Nat.le_of_ble_eq_true rfl⟩
    · cases hs
  · intro args h pre r h' hs hp
    unfold sPlainM at hs
    split at hs
    rotate_left
    · cases hs
    rename_i cs ty sz n get ty' sz' n' get'
    cases hs
    obtain ⟨hcs, ⟨rfl, rfl, hst, hok, hm⟩, ⟨rfl, rfl, hst', hok', hm'⟩, hfit⟩ := hp
    refine ⟨[.data false 140 4 n (leafG false (leafL n get)), .data false 140 4 n' (leafG false (leafL n' get'))], ⟨⟨rfl, rfl, rfl, rfl, fun i j hi hj => by rw [hst i j hi hj]; exact Cell.le_refl _⟩, ⟨rfl, rfl, rfl, rfl, fun i j hi hj => by rw [hst' i j hi hj]; exact Cell.le_refl _⟩, trivial⟩, ?_⟩
    have hL : (leafL n get).length = n := leafL_len
    have hL' : (leafL n' get').length = n' := leafL_len
    have e1 : (msgOf cs n get n' get').pl = leafL n get := rfl
    have e2 : (msgOf cs n get n' get').cl = leafL n' get' := rfl
    generalize msgOf cs n get n' get' = m at *
    subst hcs
    obtain ⟨k, hh, ht, hr, ⟨sp, sc, dp, dc, sq, da, th, ta⟩, ack, nx, hg, pc, pl, cc, cl⟩ := m
    replace e1 : pl = leafL n get := e1
    replace e2 : cl = leafL n' get' := e2
    clear hst hst'
    subst e1 e2
    generalize leafL n get = pl at *
    generalize leafL n' get' = cl at *
    obtain ⟨hpk, hack, hrl, hrb⟩ := hfit
    replace hack : ack.length ≤ 1000000000 := hack
    replace hrl : hr.length = 32 := hrl
    replace hrb : ∀ b ∈ hr, 0 ≤ b ∧ b < 256 := hrb
    unfold sKind sNextK sCopied
    try unfold leafG
    try unfold msgC
    generalize ho0 : @lK = zo0, ho1 : @lV = zo1, ho2 : @lI = zo2, ho3 : @lP = zo3, ho4 : @lN = zo4, ho5 : @pG = zo5, ho6 : @leafL = zo6, ho7 : @leavesPre = zo7, ho8 : @rN = zo8, ho9 : @plainM = zo9, ho10 : @msgPre = zo10, ho11 : @lenL = zo11, ho12 : @nextB = zo12, ho13 : @between = zo13
    generalize hA : Arith.std = A
    cbv
    subst hA ho0 ho1 ho2 ho3 ho4 ho5 ho6 ho7 ho8 ho9 ho10 ho11 ho12 ho13
    subst hL hL'
    have z1 := leaves_old (fr := false) hok
    have z2 := leaves_old (fr := false) hok'
    refine Need.mk trivial fun _ => Ife.mk (fun hb => ?_) (fun hb => ?_)
    · replace hb : (!between k 1 5) = true := hb
      have hk : k < 1 ∨ 5 < k := by simpa [between] using hb
      rw [show plainM ⟨k, hh, ht, hr, ⟨sp, sc, dp, dc, sq, da, th, ta⟩, ack, nx, hg, pc, pl, cc, cl⟩ = ⟨k, 0, 0, noRt, noPkt, [], 0, 0, 0, [], 0, []⟩ from by
        unfold plainM
        try dsimp only
        rw [if_neg (by omega), if_neg (by omega), if_neg (by omega), if_neg (by omega), if_neg (by omega)]]
      exact ⟨[], [0, 1, 5, 5], ⟨trivial, rfl, (by repeat' (first | exact (fun i j hi _ => absurd hi (Nat.not_lt_zero _)) | exact trivial | exact rfl | apply And.intro | exact (fun _ _ _ _ => Cell.le_refl _) | (intro i hi; rfl) | (intro i hi; exact absurd hi (Nat.not_lt_zero _)))), (by show List.Nodup []; exact List.nodup_nil), rfl, (by repeat' (first | exact (fun i j hi _ => absurd hi (Nat.not_lt_zero _)) | exact trivial | exact rfl | apply And.intro | exact (fun _ _ _ _ => Cell.le_refl _) | (intro i hi; rfl) | (intro i hi; exact absurd hi (Nat.not_lt_zero _))))⟩⟩
    replace hb : (!between k 1 5) = false := hb
    have hk : 1 ≤ k ∧ k ≤ 5 := by simpa [between] using hb
    refine Ife.mk (fun h1 => ?_) (fun h1 => ?_)
    · replace h1 : k = 1 := of_decide_eq_true (p := k = 1) h1
      subst h1
      rw [show plainM ⟨1, hh, ht, hr, ⟨sp, sc, dp, dc, sq, da, th, ta⟩, ack, nx, hg, pc, pl, cc, cl⟩ = ⟨1, hh, ht, hr, noPkt, [], 0, 0, 0, [], 0, []⟩ from by simp [plainM]]
      exact ⟨[], [0, 1, 5, 5], ⟨trivial, rfl, (by repeat' (first | exact (fun i j hi _ => absurd hi (Nat.not_lt_zero _)) | exact trivial | exact rfl | apply And.intro | exact (fun _ _ _ _ => Cell.le_refl _) | (intro i hi; rfl) | (intro i hi; exact absurd hi (Nat.not_lt_zero _)))), (by show List.Nodup []; exact List.nodup_nil), rfl, (by repeat' (first | exact (fun i j hi _ => absurd hi (Nat.not_lt_zero _)) | exact trivial | exact rfl | apply And.intro | exact (fun _ _ _ _ => Cell.le_refl _) | (intro i hi; rfl) | (intro i hi; exact absurd hi (Nat.not_lt_zero _))))⟩⟩
    replace h1 : ¬ k = 1 := of_decide_eq_false (p := k = 1) h1
    refine Need.mk (leavesPre_old hok hm) fun _ => ?_
    rw [z1]
    refine Ife.mk (fun h3 => ?_) (fun h3 => ?_)
    · replace h3 : k = 3 := of_decide_eq_true (p := k = 3) h3
      subst h3
      refine Need.mk trivial fun _ => Ife.mk (fun h => absurd h (by decide)) (fun _ => Ife.mk (fun h => absurd (show (3 : Int) = 5 from of_decide_eq_true (p := (3 : Int) = 5) h) (by decide)) (fun _ => ?_))
      rw [show plainM ⟨3, hh, ht, hr, ⟨sp, sc, dp, dc, sq, da, th, ta⟩, ack, nx, hg, pc, pl, cc, cl⟩ = ⟨3, 0, 0, noRt, ⟨sp, sc, dp, dc, sq, da, th, ta⟩, ack, 0, hg, pc, pl, 0, []⟩ from by simp [plainM]]
      exact ⟨[], [0, 1, 6, 7], ⟨trivial, rfl, (by repeat' (first | exact (fun i j hi _ => absurd hi (Nat.not_lt_zero _)) | exact trivial | exact rfl | apply And.intro | exact (fun _ _ _ _ => Cell.le_refl _) | (intro i hi; rfl) | (intro i hi; exact absurd hi (Nat.not_lt_zero _)))), (by show List.Nodup []; exact List.nodup_nil), rfl, (by repeat' (first | exact (fun i j hi _ => absurd hi (Nat.not_lt_zero _)) | exact trivial | exact rfl | apply And.intro | exact (fun _ _ _ _ => Cell.le_refl _) | (intro i hi; rfl) | (intro i hi; exact absurd hi (Nat.not_lt_zero _))))⟩⟩
    replace h3 : ¬ k = 3 := of_decide_eq_false (p := k = 3) h3
    refine Need.mk trivial fun _ => Ife.mk (fun hn => ?_) (fun hn => ?_)
    · replace hn : nextB k = true := hn
      have hn : k = 4 ∨ k = 5 := by simpa [nextB] using hn
      refine Ife.mk (fun h5 => ?_) (fun h5 => ?_)
      · replace h5 : k = 5 := of_decide_eq_true (p := k = 5) h5
        subst h5
        refine Need.mk (leavesPre_old hok' hm') fun _ => ?_
        rw [z2, show plainM ⟨5, hh, ht, hr, ⟨sp, sc, dp, dc, sq, da, th, ta⟩, ack, nx, hg, pc, pl, cc, cl⟩ = ⟨5, 0, 0, noRt, ⟨sp, sc, dp, dc, sq, da, th, ta⟩, [], nx, hg, pc, pl, cc, cl⟩ from by simp [plainM]]
        exact ⟨[], [0, 1, 6, 8], ⟨trivial, rfl, (by repeat' (first | exact (fun i j hi _ => absurd hi (Nat.not_lt_zero _)) | exact trivial | exact rfl | apply And.intro | exact (fun _ _ _ _ => Cell.le_refl _) | (intro i hi; rfl) | (intro i hi; exact absurd hi (Nat.not_lt_zero _)))), (by show List.Nodup []; exact List.nodup_nil), rfl, (by repeat' (first | exact (fun i j hi _ => absurd hi (Nat.not_lt_zero _)) | exact trivial | exact rfl | apply And.intro | exact (fun _ _ _ _ => Cell.le_refl _) | (intro i hi; rfl) | (intro i hi; exact absurd hi (Nat.not_lt_zero _))))⟩⟩
      · replace h5 : ¬ k = 5 := of_decide_eq_false (p := k = 5) h5
        obtain rfl : k = 4 := by omega
        rw [show plainM ⟨4, hh, ht, hr, ⟨sp, sc, dp, dc, sq, da, th, ta⟩, ack, nx, hg, pc, pl, cc, cl⟩ = ⟨4, 0, 0, noRt, ⟨sp, sc, dp, dc, sq, da, th, ta⟩, [], nx, hg, pc, pl, 0, []⟩ from by simp [plainM]]
        exact ⟨[], [0, 1, 6, 7], ⟨trivial, rfl, (by repeat' (first | exact (fun i j hi _ => absurd hi (Nat.not_lt_zero _)) | exact trivial | exact rfl | apply And.intro | exact (fun _ _ _ _ => Cell.le_refl _) | (intro i hi; rfl) | (intro i hi; exact absurd hi (Nat.not_lt_zero _)))), (by show List.Nodup []; exact List.nodup_nil), rfl, (by repeat' (first | exact (fun i j hi _ => absurd hi (Nat.not_lt_zero _)) | exact trivial | exact rfl | apply And.intro | exact (fun _ _ _ _ => Cell.le_refl _) | (intro i hi; rfl) | (intro i hi; exact absurd hi (Nat.not_lt_zero _))))⟩⟩
    · replace hn : nextB k = false := hn
      have hn : ¬ k = 4 ∧ ¬ k = 5 := by simpa [nextB] using hn
      obtain rfl : k = 2 := by omega
      refine Ife.mk (fun h => absurd (show (2 : Int) = 5 from of_decide_eq_true (p := (2 : Int) = 5) h) (by decide)) (fun _ => ?_)
      rw [show plainM ⟨2, hh, ht, hr, ⟨sp, sc, dp, dc, sq, da, th, ta⟩, ack, nx, hg, pc, pl, cc, cl⟩ = ⟨2, 0, 0, noRt, ⟨sp, sc, dp, dc, sq, da, th, ta⟩, [], 0, hg, pc, pl, 0, []⟩ from by simp [plainM]]
      exact ⟨[], [0, 1, 6, 7], ⟨trivial, rfl, (by repeat' (first | exact (fun i j hi _ => absurd hi (Nat.not_lt_zero _)) | exact trivial | exact rfl | apply And.intro | exact (fun _ _ _ _ => Cell.le_refl _) | (intro i hi; rfl) | (intro i hi; exact absurd hi (Nat.not_lt_zero _)))), (by show List.Nodup []; exact List.nodup_nil), rfl, (by repeat' (first | exact (fun i j hi _ => absurd hi (Nat.not_lt_zero _)) | exact trivial | exact rfl | apply And.intro | exact (fun _ _ _ _ => Cell.le_refl _) | (intro i hi; rfl) | (intro i hi; exact absurd hi (Nat.not_lt_zero _))))⟩⟩

end Go.Proofs.Ytcgoaicifjndpaa.Vx
end
