/- What packets are written as, by the walker. -/
import Derived.Test.YtophhppklaofaaaDoorVWr
import Derived.Test.YtophhppklaofaaaDoorVPk
namespace Go.Proofs.YtophhppklaofaaaDoor
open Go.RowKit
set_option linter.unusedVariables false
set_option linter.unusedSimpArgs false
/-- A writer's state: what it holds, whether it is bad. -/
abbrev WS := List UInt8 × Bool
def wN (v : Int) (s : WS) : WS := (numW s.1 v s.2, numBad v s.2)
def wT (m : List UInt8) (s : WS) : WS := (textW s.1 m s.2, numBad m.length s.2)
def wPk (p : Pkt) (s : WS) : WS := wN p.ta (wN p.th (wT p.data (wN p.seq (wN p.dc (wT p.dp (wN p.sc (wT p.sp s)))))))
structure fitPk (p : Pkt) (l : List UInt8) : Prop where
  l : l.length ≤ 10000000
  sp : p.sp.length ≤ 10000000
  dp : p.dp.length ≤ 10000000
  data : p.data.length ≤ 10000000
  sc : isI64 p.sc
  dc : isI64 p.dc
  seq : isI64 p.seq
  th : isI64 p.th
  ta : isI64 p.ta
theorem len_num {l : List UInt8} {v : Int} {b : Bool} {n : Nat} (h : l.length ≤ n) : (numW l v b).length ≤ n + 9 := by
  have := num_le l v b
  omega
theorem fitNum_of {l : List UInt8} {v : Int} {n : Nat} (h : l.length ≤ n) (hv : isI64 v) (hn : n ≤ 140737488351232) : fitNum l v := ⟨hv, by omega⟩
theorem text_le (l m : List UInt8) (b : Bool) : (textW l m b).length ≤ l.length + m.length + 9 := by
  have := num_le l m.length b
  unfold textW
  rw [putW]
  split
  · omega
  · simp; omega

theorem len_text {l m : List UInt8} {b : Bool} {n k : Nat} (h : l.length ≤ n) (hm : m.length ≤ k) : (textW l m b).length ≤ n + k + 9 := by
  have := text_le l m b
  omega
theorem fitText_of {l m : List UInt8} {n k : Nat} (h : l.length ≤ n) (hm : m.length ≤ k) (hn : n + k ≤ 140737488351000) : fitText l m := by
  unfold fitText
  omega

theorem name_le {l : List UInt8} (h : nameOk l = true) : l.length ≤ 12 := by
  unfold nameOk at h
  simp at h
  exact h.2.2
theorem mayEnd_facts {l : List UInt8} {c : Int} (h : mayEnd l c = true) : l.length ≤ 12 ∧ 0 ≤ c ∧ c ≤ 999 := by
  unfold mayEnd at h
  simp only [Bool.and_eq_true, decide_eq_true_eq] at h
  exact ⟨name_le h.1, h.2⟩
theorem mayPkt_fit {p : Pkt} (h : mayPkt p = true) {l : List UInt8} (hl : l.length ≤ 10000000) : fitPk p l := by
  unfold mayPkt at h
  simp only [Bool.and_eq_true, decide_eq_true_eq, between] at h
  obtain ⟨⟨⟨⟨⟨h1, h2⟩, h3⟩, h4⟩, h5⟩, h6⟩ := h
  obtain ⟨a1, a2, a3⟩ := mayEnd_facts h1
  obtain ⟨b1, b2, b3⟩ := mayEnd_facts h2
  refine ⟨hl, by omega, by omega, by omega, ?_, ?_, ?_, ?_, ?_⟩ <;> unfold isI64 <;> omega

def encPk (p : Pkt) : List UInt8 × Int := if mayPkt p then (bytesW (wPk p ([], false)).1 (wPk p ([], false)).2, badW (wPk p ([], false)).2) else ([], 1)

namespace Vx
def sPkW : SpecW
  | l, b, [.agg [.str sp, .int .i64 sc, .str dp, .int .i64 dc, .int .i64 sq, .str da, .int .i64 th, .int .i64 ta]] => some (fitPk ⟨sp, sc, dp, dc, sq, da, th, ta⟩ l, .tup [], (wPk ⟨sp, sc, dp, dc, sq, da, th, ta⟩ (l, b)).1, (wPk ⟨sp, sc, dp, dc, sq, da, th, ta⟩ (l, b)).2)
  | _, _, _ => none

set_option maxRecDepth 100000 in
set_option maxHeartbeats 400000 in
theorem pkWP : MethW Tryd.prog 87 136 5 sPkW := by
  refine MethW.of (E := tb) (C := [(116, appW 136 5 sNum), (115, appW 136 5 sWText)]) [0, 1] 3 [] tb_ok (CtsOk.cons (MethW.ct numP) <| CtsOk.cons (MethW.ct wTextP) <| CtsOk.nil _) (by kernel_rfl) Tryd.func87 rfl rfl rfl (by kernel_rfl) (by kernel_rfl) ?_ ?_
  · intro l b args pre r l' b' h
    unfold sPkW at h
    split at h
    · cases h; first | rfl | exact ⟨rfl, rfl⟩
    · cases h
  · intro l b args pre r l' b' h hp
    unfold sPkW at h
    split at h
    rotate_left
    · cases h
    rename_i sp sc dp dc sq da th ta
    cases h
    unfold sNum sWText
    generalize hg0 : numW = g0
    generalize hg1 : numBad = g1
    generalize hg2 : fitNum = g2
    generalize hg3 : fitText = g3
    generalize hg4 : textW = g4
    generalize hg5 : fitPk = g5
    generalize hg6 : wPk = g6
    generalize hg7 : (List.length : List UInt8 → Nat) = g7
    generalize hA : Arith.std = A
    cbv
    subst hA hg0 hg1 hg2 hg3 hg4 hg5 hg6 hg7
    simp only [Arith.std, Int.reduceLT, Int.reduceLE, Int.reduceAdd, Int.reduceSub, Int.reduceEq, decide_true, decide_false, Bool.not_true, Bool.not_false, Ife_tt, Ife_ff, Need_tt, eq_self]
    obtain ⟨h1, h2, h3, h4, h5, h6, h7, h8, h9⟩ := hp
    dsimp only at h2 h3 h4 h5 h6 h7 h8 h9
    repeat'
      refine Need.mk ?_ fun _ => ?_
    all_goals first
      | exact ⟨rfl, rfl⟩
      | (apply fitText_of
         · repeat first | assumption | apply len_num | apply len_text
         · assumption
         · decide)
      | (apply fitNum_of
         · repeat first | assumption | apply len_num | apply len_text
         · assumption
         · decide)
      | (simp [fitStd]; done)

def sEncPk : List SV → Option (Prop × SV)
  | [.agg [.str sp, .int .i64 sc, .str dp, .int .i64 dc, .int .i64 sq, .str da, .int .i64 th, .int .i64 ta]] => some (Pkt.fits ⟨sp, sc, dp, dc, sq, da, th, ta⟩, .tup [(some (.str (encPk ⟨sp, sc, dp, dc, sq, da, th, ta⟩).1), []), (some (.int .i64 (encPk ⟨sp, sc, dp, dc, sq, da, th, ta⟩).2), [])])
  | _ => none

set_option maxRecDepth 100000 in
set_option maxHeartbeats 400000 in
theorem encPkP : Pure Tryd.prog 44 sEncPk := by
  refine Pure.of (E := tb) (C := [(48, appPure sMayPk), (86, appMakesW 136 5), (88, appW 136 5 sBytes), (87, appW 136 5 sPkW)]) [1, 2, 3, 4, 5, 6, 7, 8, 9] 0 [] tb_ok (CtsOk.cons (Pure.ct mayPkP) <| CtsOk.cons (MakesW.ct newWP) <| CtsOk.cons (MethW.ct bytesP) <| CtsOk.cons (MethW.ct pkWP) <| CtsOk.nil _) (by kernel_rfl) Tryd.func44 rfl rfl rfl (by kernel_rfl) (by kernel_rfl) ?_ ?_
  · intro args pre r h
    unfold sEncPk at h
    split at h
    · cases h; first | rfl | exact ⟨rfl, rfl⟩
    · cases h
  · intro args pre r h hp
    unfold sEncPk at h
    split at h
    rotate_left
    · cases h
    rename_i sp sc dp dc sq da th ta
    cases h
    unfold sMayPk sBytes sPkW
    generalize hg0 : mayPkt = g0
    generalize hg1 : fitPk = g1
    generalize hg2 : wPk = g2
    generalize hg3 : bytesW = g3
    generalize hg4 : badW = g4
    generalize hg5 : encPk = g5
    generalize hg6 : Pkt.fits = g6
    generalize hg7 : (List.length : List UInt8 → Nat) = g7
    generalize hA : Arith.std = A
    cbv
    subst hA hg0 hg1 hg2 hg3 hg4 hg5 hg6 hg7
    refine Need.mk hp fun _ => ?_
    clear hp
    cases hm : mayPkt ⟨sp, sc, dp, dc, sq, da, th, ta⟩
    · simp [Ife_tt, Ife_ff, encPk, hm, Arith.std]
    simp only [Arith.std, Bool.not_true, Bool.not_false, Ife_tt, Ife_ff]
    refine Need.mk trivial fun _ => Need.mk (mayPkt_fit hm (by simp)) fun _ => ?_
    simp [encPk, hm, Need_tt]

end Vx
end Go.Proofs.YtophhppklaofaaaDoor
