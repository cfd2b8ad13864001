/- Events, plainly. -/
import Derived.Test.YtpapfokdhmpmjaaPacket
import Derived.Test.YtpapfokdhmpmjaaVTbl
namespace Go.Proofs.Ytpapfokdhmpmjaa
set_option linter.unusedVariables false
set_option linter.unusedSimpArgs false

structure Ev where
  kind : Int
  pk : Pkt
  ack : List UInt8
  ep : List UInt8
  ec : Int
  height : Int

structure Ev.fits (e : Ev) : Prop where
  pk : e.pk.fits
  ack : e.ack.length ≤ 9223372036854775807
  ep : e.ep.length ≤ 9223372036854775807

deriving instance DecidableEq for Pkt
deriving instance DecidableEq for Ev

def zeroPkt : Pkt := ⟨[], 0, [], 0, 0, [], 0, 0⟩
def zeroEv : Ev := ⟨0, zeroPkt, [], [], 0, 0⟩
def hasPk (n : Int) : Bool := decide (1 ≤ n ∧ n ≤ 5)
def isKind (n : Int) : Bool := decide (1 ≤ n ∧ n ≤ 7)
def plainEv (e : Ev) : Ev :=
  ⟨e.kind, if hasPk e.kind then e.pk else zeroPkt, if e.kind = 3 then e.ack else [], if e.kind = 6 then e.ep else [], if e.kind = 6 then e.ec else 0, if e.kind = 7 then e.height else 0⟩
def mayEv (x : Ev) : Bool :=
  isKind x.kind && decide (x = plainEv x) && (!hasPk x.kind || mayPkt x.pk) &&
    (if x.kind = 3 then decide (x.ack ≠ [] ∧ x.ack.length ≤ 32) else if x.kind = 6 then mayEnd x.ep x.ec else if x.kind = 7 then between x.height 1 1099511627776 else true)
def ownEv (x : Ev) : List UInt8 × Int × Int × Bool :=
  if mayEv x then
    if x.kind = 1 ∨ x.kind = 4 ∨ x.kind = 5 then (x.pk.sp, x.pk.sc, x.pk.seq, true)
    else if x.kind = 2 ∨ x.kind = 3 then (x.pk.dp, x.pk.dc, x.pk.seq, true)
    else if x.kind = 6 then (x.ep, x.ec, 0, true) else ([], 0, 0, false)
  else ([], 0, 0, false)

namespace Vx
def pkC (p : Pkt) : List CV := [.str p.sp, .int .i64 p.sc, .str p.dp, .int .i64 p.dc, .int .i64 p.seq, .str p.data, .int .i64 p.th, .int .i64 p.ta]
def evC (e : Ev) : List CV := [.int .i64 e.kind, .str e.pk.sp, .int .i64 e.pk.sc, .str e.pk.dp, .int .i64 e.pk.dc, .int .i64 e.pk.seq, .str e.pk.data, .int .i64 e.pk.th, .int .i64 e.pk.ta, .str e.ack, .str e.ep, .int .i64 e.ec, .int .i64 e.height]

def sKind : List SV → Option (Prop × SV)
  | [.c (.int .i64 n)] => some (True, .c (.bool (isKind n)))
  | _ => none

def sPacked : List SV → Option (Prop × SV)
  | [.c (.int .i64 n)] => some (True, .c (.bool (hasPk n)))
  | _ => none

def sPlain : List SV → Option (Prop × SV)
  | [.agg [.int .i64 k, .str sp, .int .i64 sc, .str dp, .int .i64 dc, .int .i64 sq, .str da, .int .i64 th, .int .i64 ta, .str ak, .str ep, .int .i64 ec, .int .i64 ht]] => some (True, .agg (evC (plainEv ⟨k, ⟨sp, sc, dp, dc, sq, da, th, ta⟩, ak, ep, ec, ht⟩)))
  | _ => none

def sMayPk : List SV → Option (Prop × SV)
  | [.agg [.str sp, .int .i64 sc, .str dp, .int .i64 dc, .int .i64 sq, .str da, .int .i64 th, .int .i64 ta]] => some (Pkt.fits ⟨sp, sc, dp, dc, sq, da, th, ta⟩, .c (.bool (mayPkt ⟨sp, sc, dp, dc, sq, da, th, ta⟩)))
  | _ => none

def sMayEnd : List SV → Option (Prop × SV)
  | [.agg [.str l, .int .i64 c]] => some (l.length ≤ 9223372036854775807, .c (.bool (mayEnd l c)))
  | _ => none

def sMayEv : List SV → Option (Prop × SV)
  | [.agg [.int .i64 k, .str sp, .int .i64 sc, .str dp, .int .i64 dc, .int .i64 sq, .str da, .int .i64 th, .int .i64 ta, .str ak, .str ep, .int .i64 ec, .int .i64 ht]] => some (Ev.fits ⟨k, ⟨sp, sc, dp, dc, sq, da, th, ta⟩, ak, ep, ec, ht⟩, .c (.bool (mayEv ⟨k, ⟨sp, sc, dp, dc, sq, da, th, ta⟩, ak, ep, ec, ht⟩)))
  | _ => none

def sOwn : List SV → Option (Prop × SV)
  | [.agg [.int .i64 k, .str sp, .int .i64 sc, .str dp, .int .i64 dc, .int .i64 sq, .str da, .int .i64 th, .int .i64 ta, .str ak, .str ep, .int .i64 ec, .int .i64 ht]] => some (Ev.fits ⟨k, ⟨sp, sc, dp, dc, sq, da, th, ta⟩, ak, ep, ec, ht⟩, .tup [(none, [.str (ownEv ⟨k, ⟨sp, sc, dp, dc, sq, da, th, ta⟩, ak, ep, ec, ht⟩).1, .int .i64 (ownEv ⟨k, ⟨sp, sc, dp, dc, sq, da, th, ta⟩, ak, ep, ec, ht⟩).2.1]), (some (.int .i64 (ownEv ⟨k, ⟨sp, sc, dp, dc, sq, da, th, ta⟩, ak, ep, ec, ht⟩).2.2.1), []), (some (.bool (ownEv ⟨k, ⟨sp, sc, dp, dc, sq, da, th, ta⟩, ak, ep, ec, ht⟩).2.2.2), [])])
  | _ => none

set_option maxRecDepth 100000 in
set_option maxHeartbeats 400000 in
theorem kindP : Pure Try.prog 36 sKind := by
  refine Pure.of (E := tb) (C := []) [] 0 [] tb_ok (CtsOk.nil _) (by kernel_rfl) Try.func36 rfl rfl rfl (by kernel_rfl) (by kernel_rfl) ?_ ?_
  · intro args pre r h
    unfold sKind at h
    split at h
    · cases h; rfl
    · cases h
  · intro args pre r h hp
    unfold sKind at h
    split at h
    rotate_left
    · cases h
    rename_i n
    cases h
    generalize hg0 : isKind = g0
    generalize hA : Arith.std = A
    cbv
    subst hA hg0
    simp only [Ife_iff, Need_iff, Arith.std]
    simp [isKind]
    omega

set_option maxRecDepth 100000 in
set_option maxHeartbeats 400000 in
theorem packedP : Pure Try.prog 32 sPacked := by
  refine Pure.of (E := tb) (C := []) [] 0 [] tb_ok (CtsOk.nil _) (by kernel_rfl) Try.func32 rfl rfl rfl (by kernel_rfl) (by kernel_rfl) ?_ ?_
  · intro args pre r h
    unfold sPacked at h
    split at h
    · cases h; rfl
    · cases h
  · intro args pre r h hp
    unfold sPacked at h
    split at h
    rotate_left
    · cases h
    rename_i n
    cases h
    generalize hg0 : hasPk = g0
    generalize hA : Arith.std = A
    cbv
    subst hA hg0
    simp only [Ife_iff, Need_iff, Arith.std]
    simp [hasPk]
    omega

set_option maxRecDepth 100000 in
set_option maxHeartbeats 400000 in
theorem plainP : Pure Try.prog 37 sPlain := by
  refine Pure.of (E := tb) (C := [(32, appPure sPacked)]) [] 0 [] tb_ok (CtsOk.cons (Pure.ct packedP) <| CtsOk.nil _) (by kernel_rfl) Try.func37 rfl rfl rfl (by kernel_rfl) (by kernel_rfl) ?_ ?_
  · intro args pre r h
    unfold sPlain at h
    split at h
    · cases h; rfl
    · cases h
  · intro args pre r h hp
    unfold sPlain at h
    split at h
    rotate_left
    · cases h
    rename_i k sp sc dp dc sq da th ta ak ep ec ht
    cases h
    unfold sPacked
    generalize hg0 : hasPk = g0
    generalize hg1 : plainEv = g1
    generalize hA : Arith.std = A
    cbv
    subst hA hg0 hg1
    simp only [Ife_iff, Need_iff, Arith.std]
    refine ⟨trivial, fun _ => ?_⟩
    by_cases h1 : hasPk k = true <;> by_cases h3 : k = 3 <;> by_cases h6 : k = 6 <;> by_cases h7 : k = 7 <;> simp_all [plainEv, zeroPkt]

theorem mayEndP : Pure Try.prog 39 sMayEnd := by
  refine ⟨by kernel_rfl, fun args pre r h hp us hs W => ?_⟩
  unfold sMayEnd at h
  split at h
  rotate_left
  · cases h
  rename_i l c
  cases h
  obtain ⟨_, _, rfl, ⟨v0, a0, rfl⟩, b0⟩ := hs
  obtain rfl := a0.unique (show IsL [] _ [.string ⟨(l).toArray⟩, .int .i64 c] from rfl)
  cases b0
  refine Calls.mono (pathMay l c W hp) fun e W' he => ?_
  obtain ⟨rfl, hb⟩ := he
  exact ⟨_, rfl, rfl, hb⟩

theorem mayPkP : Pure Try.prog 38 sMayPk := by
  refine ⟨by kernel_rfl, fun args pre r h hp us hs W => ?_⟩
  unfold sMayPk at h
  split at h
  rotate_left
  · cases h
  rename_i sp sc dp dc sq da th ta
  cases h
  obtain ⟨_, _, rfl, ⟨v0, a0, rfl⟩, b0⟩ := hs
  obtain rfl := a0.unique (show IsL [] _ [.string ⟨(sp).toArray⟩, .int .i64 sc, .string ⟨(dp).toArray⟩, .int .i64 dc, .int .i64 sq, .string ⟨(da).toArray⟩, .int .i64 th, .int .i64 ta] from rfl)
  cases b0
  refine Calls.mono (packetMay ⟨sp, sc, dp, dc, sq, da, th, ta⟩ W hp) fun e W' he => ?_
  obtain ⟨rfl, hb⟩ := he
  exact ⟨_, rfl, rfl, hb⟩

set_option maxRecDepth 100000 in
set_option maxHeartbeats 400000 in
theorem mayP : Pure Try.prog 13 sMayEv := by
  refine Pure.of (E := tb) (C := [(36, appPure sKind), (32, appPure sPacked), (37, appPure sPlain), (38, appPure sMayPk), (39, appPure sMayEnd)]) [] 0 [(1, [(0, true), (1, true), (2, false), (3, true), (4, true), (5, true), (6, true), (7, false), (8, true), (9, true), (10, true), (11, true), (12, true), (13, false), (14, true), (15, true), (16, true), (17, false), (18, true), (19, true), (20, true)])] tb_ok (CtsOk.cons (Pure.ct kindP) <| CtsOk.cons (Pure.ct packedP) <| CtsOk.cons (Pure.ct plainP) <| CtsOk.cons (Pure.ct mayPkP) <| CtsOk.cons (Pure.ct mayEndP) <| CtsOk.nil _) (by kernel_rfl) Try.func13 rfl rfl rfl (by kernel_rfl) (by kernel_rfl) ?_ ?_
  · intro args pre r h
    unfold sMayEv at h
    split at h
    · cases h; rfl
    · cases h
  · intro args pre r h hp
    unfold sMayEv at h
    split at h
    rotate_left
    · cases h
    rename_i k sp sc dp dc sq da th ta ak ep ec ht
    cases h
    unfold sKind sPacked sPlain sMayPk sMayEnd
    generalize hg0 : isKind = g0
    generalize hg1 : hasPk = g1
    generalize hg2 : plainEv = g2
    generalize hg3 : mayPkt = g3
    generalize hg4 : mayEnd = g4
    generalize hg5 : mayEv = g5
    generalize hg6 : Pkt.fits = g6
    generalize hg7 : Ev.fits = g7
    generalize hg8 : (List.length : List UInt8 → Nat) = g8
    generalize hA : Arith.std = A
    cbv
    subst hA hg0 hg1 hg2 hg3 hg4 hg5 hg6 hg7 hg8
    simp only [Ife_iff, Need_iff, Arith.std]
    generalize hy : plainEv _ = y
    obtain ⟨k', ⟨sp', sc', dp', dc', sq', da', th', ta'⟩, ak', ep', ec', ht'⟩ := y
    dsimp only
    have hm : mayEv ⟨k, ⟨sp, sc, dp, dc, sq, da, th, ta⟩, ak, ep, ec, ht⟩ = (isKind k && (decide (k = k') && (decide (sp = sp') && (decide (sc = sc') && (decide (dp = dp') && (decide (dc = dc') && (decide (sq = sq') && (decide (da = da') && (decide (th = th') && (decide (ta = ta') && (decide (ak = ak') && (decide (ep = ep') && (decide (ec = ec') && (decide (ht = ht') && true))))))))))))) && (!hasPk k || mayPkt ⟨sp, sc, dp, dc, sq, da, th, ta⟩) && (if k = 3 then decide (ak ≠ [] ∧ ak.length ≤ 32) else if k = 6 then mayEnd ep ec else if k = 7 then decide (1 ≤ ht ∧ ht ≤ 1099511627776) else true)) := by
      simp only [mayEv, hy, Ev.mk.injEq, Pkt.mk.injEq, Bool.decide_and, Bool.and_assoc, Bool.and_true, between]
    rw [hm]
    generalize (decide (k = k') && _) = E
    have f1 : Pkt.fits ⟨sp, sc, dp, dc, sq, da, th, ta⟩ := hp.pk
    have f2 : ep.length ≤ 9223372036854775807 := hp.ep
    clear hm hy hp
    cases hI : isKind k <;> cases E <;> cases hP : hasPk k <;> cases hM : mayPkt ⟨sp, sc, dp, dc, sq, da, th, ta⟩ <;> simp [f1, f2]
    all_goals
      by_cases h3 : k = 3 <;> by_cases h6 : k = 6 <;> by_cases h7 : k = 7 <;> simp [h3, h6, h7]
    all_goals first
      | omega
      | (by_cases ha : ak = [] <;> by_cases hl : ak.length ≤ 32 <;> simp [ha, hl] <;> omega)
      | (simp_all; omega)

set_option maxRecDepth 100000 in
set_option maxHeartbeats 400000 in
theorem ownP : Pure Try.prog 14 sOwn := by
  refine Pure.of (E := tb) (C := [(13, appPure sMayEv)]) [1] 0 [(7, [(0, true), (1, true), (2, true), (3, true), (4, true), (5, true), (6, false), (7, true), (8, true)]), (10, [(0, true), (1, true), (2, true), (3, true), (4, true), (5, true), (6, false), (7, true), (8, true)])] tb_ok (CtsOk.cons (Pure.ct mayP) <| CtsOk.nil _) (by kernel_rfl) Try.func14 rfl rfl rfl (by kernel_rfl) (by kernel_rfl) ?_ ?_
  · intro args pre r h
    unfold sOwn at h
    split at h
    · cases h; rfl
    · cases h
  · intro args pre r h hp
    unfold sOwn at h
    split at h
    rotate_left
    · cases h
    rename_i k sp sc dp dc sq da th ta ak ep ec ht
    cases h
    unfold sMayEv
    generalize hg0 : mayEv = g0
    generalize hg1 : ownEv = g1
    generalize hg2 : Pkt.fits = g2
    generalize hg3 : Ev.fits = g3
    generalize hA : Arith.std = A
    cbv
    subst hA hg0 hg1 hg2 hg3
    simp only [Ife_iff, Need_iff, Arith.std]
    refine ⟨hp, fun _ => ?_⟩
    clear hp
    cases hM : mayEv ⟨k, ⟨sp, sc, dp, dc, sq, da, th, ta⟩, ak, ep, ec, ht⟩
    · simp [ownEv, hM]
    · by_cases h1 : k = 1 <;> by_cases h2 : k = 2 <;> by_cases h3 : k = 3 <;> by_cases h4 : k = 4 <;> by_cases h5 : k = 5 <;> by_cases h6 : k = 6 <;> simp_all [ownEv]

end Vx
end Go.Proofs.Ytpapfokdhmpmjaa
