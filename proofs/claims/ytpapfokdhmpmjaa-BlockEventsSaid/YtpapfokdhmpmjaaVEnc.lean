/- What packets and events are written as, by the walker. -/
import Derived.Test.YtpapfokdhmpmjaaVWr
import Derived.Test.YtpapfokdhmpmjaaVEv
namespace Go.Proofs.Ytpapfokdhmpmjaa
set_option linter.unusedVariables false
set_option linter.unusedSimpArgs false

/-- A writer's state: what it holds, whether it is bad. -/
abbrev WS := List UInt8 × Bool
def wN (v : Int) (s : WS) : WS := (numW s.1 v s.2, numBad v s.2)
def wT (m : List UInt8) (s : WS) : WS := (textW s.1 m s.2, numBad m.length s.2)
def wPk (p : Pkt) (s : WS) : WS := wN p.ta (wN p.th (wT p.data (wN p.seq (wN p.dc (wT p.dp (wN p.sc (wT p.sp s)))))))
def wEv (e : Ev) (s : WS) : WS :=
  let s := wN e.kind s
  let s := if hasPk e.kind then wPk e.pk s else s
  if e.kind = 3 then wT e.ack s else if e.kind = 6 then wN e.ec (wT e.ep s) else if e.kind = 7 then wN e.height s else s
structure fitPk (p : Pkt) (l : List UInt8) : Prop where
  l : l.length ≤ 10000000
  sp : p.sp.length ≤ 10000000
  dp : p.dp.length ≤ 10000000
  data : p.data.length ≤ 10000000
  sc : isI64 p.sc
  dc : isI64 p.dc
  seq : isI64 p.seq
  th : isI64 p.th
  ta : isI64 p.ta
theorem len_num {l : List UInt8} {v : Int} {b : Bool} {n : Nat} (h : l.length ≤ n) : (numW l v b).length ≤ n + 9 := by
  have := num_le l v b
  omega
theorem fitNum_of {l : List UInt8} {v : Int} {n : Nat} (h : l.length ≤ n) (hv : isI64 v) (hn : n ≤ 140737488351232) : fitNum l v := ⟨hv, by omega⟩
theorem text_le (l m : List UInt8) (b : Bool) : (textW l m b).length ≤ l.length + m.length + 9 := by
  have := num_le l m.length b
  unfold textW
  rw [putW]
  split
  · omega
  · simp; omega

theorem len_text {l m : List UInt8} {b : Bool} {n k : Nat} (h : l.length ≤ n) (hm : m.length ≤ k) : (textW l m b).length ≤ n + k + 9 := by
  have := text_le l m b
  omega
theorem fitText_of {l m : List UInt8} {n k : Nat} (h : l.length ≤ n) (hm : m.length ≤ k) (hn : n + k ≤ 140737488351000) : fitText l m := by
  unfold fitText
  omega

namespace Vx
def sPkW : SpecW
  | l, b, [.agg [.str sp, .int .i64 sc, .str dp, .int .i64 dc, .int .i64 sq, .str da, .int .i64 th, .int .i64 ta]] => some (fitPk ⟨sp, sc, dp, dc, sq, da, th, ta⟩ l, .tup [], (wPk ⟨sp, sc, dp, dc, sq, da, th, ta⟩ (l, b)).1, (wPk ⟨sp, sc, dp, dc, sq, da, th, ta⟩ (l, b)).2)
  | _, _, _ => none

set_option maxRecDepth 100000 in
set_option maxHeartbeats 400000 in
theorem pkWP : MethW Try.prog 33 82 5 sPkW := by
  refine MethW.of (E := tb) (C := [(31, appW 82 5 sNum), (34, appW 82 5 sText)]) [0, 1] 3 [] tb_ok (CtsOk.cons (MethW.ct numP) <| CtsOk.cons (MethW.ct textP) <| CtsOk.nil _) (by kernel_rfl) Try.func33 rfl rfl rfl (by kernel_rfl) (by kernel_rfl) ?_ ?_
  · intro l b args pre r l' b' h
    unfold sPkW at h
    split at h
    · cases h; first | rfl | exact ⟨rfl, rfl⟩
    · cases h
  · intro l b args pre r l' b' h hp
    unfold sPkW at h
    split at h
    rotate_left
    · cases h
    rename_i sp sc dp dc sq da th ta
    cases h
    unfold sNum sText
    generalize hg0 : numW = g0
    generalize hg1 : numBad = g1
    generalize hg2 : fitNum = g2
    generalize hg3 : fitText = g3
    generalize hg4 : textW = g4
    generalize hg5 : fitPk = g5
    generalize hg6 : wPk = g6
    generalize hg7 : (List.length : List UInt8 → Nat) = g7
    generalize hA : Arith.std = A
    cbv
    subst hA hg0 hg1 hg2 hg3 hg4 hg5 hg6 hg7
    simp only [Arith.std, Int.reduceLT, Int.reduceLE, Int.reduceAdd, Int.reduceSub, Int.reduceEq, decide_true, decide_false, Bool.not_true, Bool.not_false, Ife_tt, Ife_ff, Need_tt, eq_self]
    obtain ⟨h1, h2, h3, h4, h5, h6, h7, h8, h9⟩ := hp
    dsimp only at h2 h3 h4 h5 h6 h7 h8 h9
    repeat'
      refine Need.mk ?_ fun _ => ?_
    all_goals first
      | exact ⟨rfl, rfl⟩
      | (apply fitText_of
         · repeat first | assumption | apply len_num | apply len_text
         · assumption
         · decide)
      | (apply fitNum_of
         · repeat first | assumption | apply len_num | apply len_text
         · assumption
         · decide)
      | (simp [fitStd]; done)

end Vx
end Go.Proofs.Ytpapfokdhmpmjaa
