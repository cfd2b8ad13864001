/- Packets, by the walker. -/
import Derived.Test.YtophhppklaofaaaDoorM13
import Derived.Test.YtophhppklaofaaaDoorVTbl
namespace Go.Proofs.YtophhppklaofaaaDoor
open Go.RowKit
set_option linter.unusedVariables false
set_option linter.unusedSimpArgs false
deriving instance DecidableEq for Pkt
def zeroPkt : Pkt := ⟨[], 0, [], 0, 0, [], 0, 0⟩
namespace Vx
def pkC (p : Pkt) : List CV := [.str p.sp, .int .i64 p.sc, .str p.dp, .int .i64 p.dc, .int .i64 p.seq, .str p.data, .int .i64 p.th, .int .i64 p.ta]

def sMayPk : List SV → Option (Prop × SV)
  | [.agg [.str sp, .int .i64 sc, .str dp, .int .i64 dc, .int .i64 sq, .str da, .int .i64 th, .int .i64 ta]] => some (Pkt.fits ⟨sp, sc, dp, dc, sq, da, th, ta⟩, .c (.bool (mayPkt ⟨sp, sc, dp, dc, sq, da, th, ta⟩)))
  | _ => none


def sLightPk : List SV → Option (Prop × SV)
  | [.agg [.str sp, .int .i64 sc, .str dp, .int .i64 dc, .int .i64 sq, .str da, .int .i64 th, .int .i64 ta]] => some (Pkt.fits ⟨sp, sc, dp, dc, sq, da, th, ta⟩, .c (.bool (lightPkt ⟨sp, sc, dp, dc, sq, da, th, ta⟩)))
  | _ => none

def sOver : List SV → Option (Prop × SV)
  | [.agg [.str sp, .int .i64 sc, .str dp, .int .i64 dc, .int .i64 sq, .str da, .int .i64 th, .int .i64 ta], .c (.int .i64 h), .c (.int .i64 u)] => some (True, .c (.bool (overPkt ⟨sp, sc, dp, dc, sq, da, th, ta⟩ h u)))
  | _ => none


def sPast : List SV → Option (Prop × SV)
  | [.c (.int .i64 b), .c (.int .i64 v)] => some (True, .c (.bool (pastB b v)))
  | _ => none


theorem mayPkP : Pure Tryd.prog 48 sMayPk := by
  refine ⟨by kernel_rfl, fun args pre r h hp us hs W => ?_⟩
  unfold sMayPk at h
  split at h
  rotate_left
  · cases h
  rename_i sp sc dp dc sq da th ta
  cases h
  obtain ⟨_, _, rfl, ⟨v0, a0, rfl⟩, b0⟩ := hs
  obtain rfl := a0.unique (show IsL [] _ [.string ⟨(sp).toArray⟩, .int .i64 sc, .string ⟨(dp).toArray⟩, .int .i64 dc, .int .i64 sq, .string ⟨(da).toArray⟩, .int .i64 th, .int .i64 ta] from rfl)
  cases b0
  refine Calls.mono (packetMay ⟨sp, sc, dp, dc, sq, da, th, ta⟩ W hp) fun e W' he => ?_
  obtain ⟨rfl, hb⟩ := he
  exact ⟨_, rfl, rfl, hb⟩


theorem lightPkP : Pure Tryd.prog 40 sLightPk := by
  refine ⟨by kernel_rfl, fun args pre r h hp us hs W => ?_⟩
  unfold sLightPk at h
  split at h
  rotate_left
  · cases h
  rename_i sp sc dp dc sq da th ta
  cases h
  obtain ⟨_, _, rfl, ⟨v0, a0, rfl⟩, b0⟩ := hs
  obtain rfl := a0.unique (show IsL [] _ [.string ⟨(sp).toArray⟩, .int .i64 sc, .string ⟨(dp).toArray⟩, .int .i64 dc, .int .i64 sq, .string ⟨(da).toArray⟩, .int .i64 th, .int .i64 ta] from rfl)
  cases b0
  refine Calls.mono (lightPacket ⟨sp, sc, dp, dc, sq, da, th, ta⟩ W hp) fun e W' he => ?_
  obtain ⟨rfl, hb⟩ := he
  exact ⟨_, rfl, rfl, hb⟩

set_option maxRecDepth 100000 in
set_option maxHeartbeats 400000 in
theorem pastP : Pure Tryd.prog 97 sPast := by
  refine Pure.of (E := tb) (C := []) [] 0 [] tb_ok (CtsOk.nil _) (by kernel_rfl) Tryd.func97 rfl rfl rfl (by kernel_rfl) (by kernel_rfl) ?_ ?_
  · intro args pre r h
    unfold sPast at h
    split at h
    · cases h; first | rfl | exact ⟨rfl, rfl⟩
    · cases h
  · intro args pre r h hp
    unfold sPast at h
    split at h
    rotate_left
    · cases h
    rename_i b v
    cases h
    generalize hg0 : pastB = g0
    generalize hA : Arith.std = A
    cbv
    subst hA hg0
    simp only [Ife_iff, Need_iff, Arith.std]
    simp [pastB]
    omega

set_option maxRecDepth 100000 in
set_option maxHeartbeats 400000 in
theorem overP : Pure Tryd.prog 49 sOver := by
  refine Pure.of (E := tb) (C := [(97, appPure sPast)]) [] 0 [] tb_ok (CtsOk.cons (Pure.ct pastP) <| CtsOk.nil _) (by kernel_rfl) Tryd.func49 rfl rfl rfl (by kernel_rfl) (by kernel_rfl) ?_ ?_
  · intro args pre r h
    unfold sOver at h
    split at h
    · cases h; first | rfl | exact ⟨rfl, rfl⟩
    · cases h
  · intro args pre r h hp
    unfold sOver at h
    split at h
    rotate_left
    · cases h
    rename_i sp sc dp dc sq da th ta h u
    cases h
    unfold sPast
    generalize hg0 : pastB = g0
    generalize hg1 : overPkt = g1
    generalize hA : Arith.std = A
    cbv
    subst hA hg0 hg1
    simp only [Ife_iff, Need_iff, Arith.std]
    cases h1 : pastB th h <;> cases h2 : pastB ta u <;> simp [overPkt, h1, h2]


end Vx
end Go.Proofs.YtophhppklaofaaaDoor
