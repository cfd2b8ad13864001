/- Writers, by the walker. -/
import Derived.Test.YtcgoaicifjndpaaM20
import Derived.Test.YtcgoaicifjndpaaM15
import Derived.Test.YtcgoaicifjndpaaLebWalks
import Derived.Test.YtcgoaicifjndpaaM23
section
namespace Go.Proofs.Ytcgoaicifjndpaa
set_option linter.unusedVariables false
set_option linter.unusedSimpArgs false

def putW (l m : List UInt8) (bad : Bool) : List UInt8 := if bad then l else l ++ m
def numBad (v : Int) (bad : Bool) : Bool := bad || decide (Leb.put v = [])
def numW (l : List UInt8) (v : Int) (bad : Bool) : List UInt8 := putW l (Leb.put v) (numBad v bad)
def textW (l m : List UInt8) (bad : Bool) : List UInt8 := putW (numW l m.length bad) m (numBad m.length bad)
def isI64 (v : Int) : Prop := -9223372036854775808 ≤ v ∧ v ≤ 9223372036854775807
def fitPut (l m : List UInt8) : Prop := l.length + m.length ≤ 140737488355328
def fitNum (l : List UInt8) (v : Int) : Prop := isI64 v ∧ l.length ≤ 140737488351232
def fitText (l m : List UInt8) : Prop := l.length + m.length ≤ 140737488351000
def bytesW (l : List UInt8) (b : Bool) : List UInt8 := if b then [] else l
def badW (b : Bool) : Int := if b then 1 else 0

theorem put_le (v : Int) : (Leb.put v).length ≤ 9 := by
  unfold Leb.put
  split
  · have := Leb.putF_length 7 v.toNat
    omega
  · simp
theorem num_le (l : List UInt8) (v : Int) (b : Bool) : (numW l v b).length ≤ l.length + 9 := by
  have := put_le v
  unfold numW putW
  split
  · omega
  · simp; omega

namespace Vx
def sLebPut : List SV → Option (Prop × SV)
  | [.c (.int .i64 v)] => some (isI64 v, .c (.str (Leb.put v)))
  | _ => none

def sPut : SpecW
  | l, b, [.c (.str m)] => some (fitPut l m, .tup [], putW l m b, b)
  | _, _, _ => none

def sNum : SpecW
  | l, b, [.c (.int .i64 v)] => some (fitNum l v, .tup [], numW l v b, numBad v b)
  | _, _, _ => none

def sWText : SpecW
  | l, b, [.c (.str m)] => some (fitText l m, .tup [], textW l m b, numBad m.length b)
  | _, _, _ => none

def sBytes : SpecW
  | l, b, [] => some (True, .tup [(some (.str (bytesW l b)), []), (some (.int .i64 (badW b)), [])], l, b)
  | _, _, _ => none

theorem lebPutP : Pure Try.prog 167 sLebPut := by
  refine ⟨by kernel_rfl, fun args pre r h hp us hs W => ?_⟩
  unfold sLebPut at h
  split at h
  rotate_left
  · cases h
  rename_i v
  cases h
  obtain ⟨u0, _, rfl, a0, b0⟩ := hs
  obtain rfl : .int .i64 v = u0 := Option.some.inj a0
  cases b0
  refine Calls.mono (lebPut v W hp) fun e W' he => ?_
  obtain ⟨rfl, hb⟩ := he
  exact ⟨_, rfl, rfl, hb⟩

set_option maxRecDepth 100000 in
set_option maxHeartbeats 400000 in
theorem putP : MethW Try.prog 168 190 5 sPut := by
  refine MethW.of (E := tb) (C := []) [] 0 [] tb_ok (CtsOk.nil _) (by kernel_rfl) Try.func168 rfl rfl rfl (by kernel_rfl) (by kernel_rfl) ?_ ?_
  · intro l b args pre r l' b' h
    unfold sPut at h
    split at h
    · cases h; first | rfl | exact ⟨rfl, rfl⟩
    · cases h
  · intro l b args pre r l' b' h hp
    unfold sPut at h
    split at h
    rotate_left
    · cases h
    rename_i m
    cases h
    generalize hg0 : putW = g0
    generalize hg1 : fitPut = g1
    generalize hA : Arith.std = A
    cbv
    subst hA hg0 hg1
    simp only [Ife_iff, Need_iff, Arith.std]
    refine ⟨fun h => ⟨hp, fun _ => ?_⟩, fun h => ?_⟩ <;> cases b <;> simp_all [putW, fitPut]

set_option maxRecDepth 100000 in
set_option maxHeartbeats 400000 in
theorem numP : MethW Try.prog 132 190 5 sNum := by
  refine MethW.of (E := tb) (C := [(167, appPure sLebPut), (168, appW 190 5 sPut)]) [] 0 [] tb_ok (CtsOk.cons (Pure.ct lebPutP) <| CtsOk.cons (MethW.ct putP) <| CtsOk.nil _) (by kernel_rfl) Try.func132 rfl rfl rfl (by kernel_rfl) (by kernel_rfl) ?_ ?_
  · intro l b args pre r l' b' h
    unfold sNum at h
    split at h
    · cases h; first | rfl | exact ⟨rfl, rfl⟩
    · cases h
  · intro l b args pre r l' b' h hp
    unfold sNum at h
    split at h
    rotate_left
    · cases h
    rename_i v
    cases h
    unfold sLebPut sPut
    generalize hg0 : putW = g0
    generalize hg1 : fitPut = g1
    generalize hg2 : Leb.put = g2
    generalize hg3 : numW = g3
    generalize hg4 : numBad = g4
    generalize hg5 : fitNum = g5
    generalize hg6 : isI64 = g6
    generalize hA : Arith.std = A
    cbv
    subst hA hg0 hg1 hg2 hg3 hg4 hg5 hg6
    simp only [Ife_iff, Need_iff, Arith.std]
    have hl := put_le v
    have hf : fitPut l (Leb.put v) := by have := hp.2; unfold fitPut; omega
    refine ⟨hp.1, fun _ => ⟨fun h => ⟨hf, fun _ => ?_⟩, fun h => ⟨hf, fun _ => ?_⟩⟩⟩ <;> subst h <;> simp [numW, numBad]

set_option maxRecDepth 100000 in
set_option maxHeartbeats 400000 in
theorem wTextP : MethW Try.prog 133 190 5 sWText := by
  refine MethW.of (E := tb) (C := [(132, appW 190 5 sNum), (168, appW 190 5 sPut)]) [] 0 [] tb_ok (CtsOk.cons (MethW.ct numP) <| CtsOk.cons (MethW.ct putP) <| CtsOk.nil _) (by kernel_rfl) Try.func133 rfl rfl rfl (by kernel_rfl) (by kernel_rfl) ?_ ?_
  · intro l b args pre r l' b' h
    unfold sWText at h
    split at h
    · cases h; first | rfl | exact ⟨rfl, rfl⟩
    · cases h
  · intro l b args pre r l' b' h hp
    unfold sWText at h
    split at h
    rotate_left
    · cases h
    rename_i m
    cases h
    unfold sNum sPut
    generalize hg0 : putW = g0
    generalize hg1 : fitPut = g1
    generalize hg2 : numW = g2
    generalize hg3 : numBad = g3
    generalize hg4 : fitNum = g4
    generalize hg5 : fitText = g5
    generalize hg6 : textW = g6
    generalize hg7 : (List.length : List UInt8 → Nat) = g7
    generalize hA : Arith.std = A
    cbv
    subst hA hg0 hg1 hg2 hg3 hg4 hg5 hg6 hg7
    simp only [Ife_iff, Need_iff, Arith.std]
    have hl := num_le l m.length b
    unfold fitText at hp
    refine ⟨⟨by unfold isI64; omega, by omega⟩, fun _ => ⟨by unfold fitPut; omega, fun _ => ⟨rfl, trivial⟩⟩⟩

set_option maxRecDepth 100000 in
set_option maxHeartbeats 400000 in
theorem bytesP : MethW Try.prog 111 190 5 sBytes := by
  refine MethW.of (E := tb) (C := []) [] 0 [] tb_ok (CtsOk.nil _) (by kernel_rfl) Try.func111 rfl rfl rfl (by kernel_rfl) (by kernel_rfl) ?_ ?_
  · intro l b args pre r l' b' h
    unfold sBytes at h
    split at h
    · cases h; first | rfl | exact ⟨rfl, rfl⟩
    · cases h
  · intro l b args pre r l' b' h hp
    unfold sBytes at h
    split at h
    rotate_left
    · cases h
    cases h
    generalize hg0 : bytesW = g0
    generalize hg1 : badW = g1
    generalize hA : Arith.std = A
    cbv
    subst hA hg0 hg1
    simp only [Ife_iff, Need_iff, Arith.std]
    cases b <;> simp [bytesW, badW]

theorem newWP : MakesW Try.prog 109 190 5 := by
  have h : Pure Try.prog 109 (fun _ => none) := ⟨by kernel_rfl, fun _ _ _ h => by cases h⟩
  refine ⟨h.fn, fun W => ?_⟩
  have := fn_ok (P := Try.prog) (N := env (lft Try.prog 0) 0 .std tb [] []) rfl tb_ok (CtsOk.nil _) (by kernel_rfl) [] Try.func109 rfl rfl rfl (by kernel_rfl) (args := []) (us := []) (h := []) (fun c st K _ h => h) (Rel.refl W) rfl
    (fun v h => match v with
      | .c (.ptr k 0) => match h[k]? with
        | some (.cells t [.val (.slice none 0 0), .ff]) => t = 190
        | _ => False
      | _ => False) (by
        generalize hA : Arith.std = A
        cbv)
  refine Calls.mono this fun e W' he => ?_
  obtain ⟨v, u, ρ', h', rfl, h1, h2, h3⟩ := he
  split at h3
  · rename_i k
    split at h3
    · rename_i t hk
      subst h3
      simp only [List.nil_append] at h1 h2
      obtain ⟨p, hp, rfl⟩ := den_ptr h1
      obtain ⟨vs, hv1, hv2⟩ := h2.ok k _ p hk hp
      have hown := (h2.own k p.b (by rw [fp_mk hk hp]; rfl)).2
      obtain rfl := hv1.unique (show IsL _ _ [.slice none 0 0, .bool false] from rfl)
      exact ⟨p.b, rfl, hv2, hown.resolve_left (by simp), h2.toBelow⟩
    · exact h3.elim
  · exact h3.elim

end Vx
end Go.Proofs.Ytcgoaicifjndpaa
end

section
/- What packets are written as, by the walker. -/
namespace Go.Proofs.Ytcgoaicifjndpaa
open Go.RowKit
set_option linter.unusedVariables false
set_option linter.unusedSimpArgs false
/-- A writer's state: what it holds, whether it is bad. -/
abbrev WS := List UInt8 × Bool
def wN (v : Int) (s : WS) : WS := (numW s.1 v s.2, numBad v s.2)
def wT (m : List UInt8) (s : WS) : WS := (textW s.1 m s.2, numBad m.length s.2)
def wPk (p : Pkt) (s : WS) : WS := wN p.ta (wN p.th (wT p.data (wN p.seq (wN p.dc (wT p.dp (wN p.sc (wT p.sp s)))))))
structure fitPk (p : Pkt) (l : List UInt8) : Prop where
  l : l.length ≤ 10000000
  sp : p.sp.length ≤ 10000000
  dp : p.dp.length ≤ 10000000
  data : p.data.length ≤ 10000000
  sc : isI64 p.sc
  dc : isI64 p.dc
  seq : isI64 p.seq
  th : isI64 p.th
  ta : isI64 p.ta
theorem len_num {l : List UInt8} {v : Int} {b : Bool} {n : Nat} (h : l.length ≤ n) : (numW l v b).length ≤ n + 9 := by
  have := num_le l v b
  omega
theorem fitNum_of {l : List UInt8} {v : Int} {n : Nat} (h : l.length ≤ n) (hv : isI64 v) (hn : n ≤ 140737488351232) : fitNum l v := ⟨hv, by omega⟩
theorem text_le (l m : List UInt8) (b : Bool) : (textW l m b).length ≤ l.length + m.length + 9 := by
  have := num_le l m.length b
  unfold textW
  rw [putW]
  split
  · omega
  · simp; omega

theorem len_text {l m : List UInt8} {b : Bool} {n k : Nat} (h : l.length ≤ n) (hm : m.length ≤ k) : (textW l m b).length ≤ n + k + 9 := by
  have := text_le l m b
  omega
theorem fitText_of {l m : List UInt8} {n k : Nat} (h : l.length ≤ n) (hm : m.length ≤ k) (hn : n + k ≤ 140737488351000) : fitText l m := by
  unfold fitText
  omega

theorem name_le {l : List UInt8} (h : nameOk l = true) : l.length ≤ 12 := by
  unfold nameOk at h
  simp at h
  exact h.2.2
theorem mayEnd_facts {l : List UInt8} {c : Int} (h : mayEnd l c = true) : l.length ≤ 12 ∧ 0 ≤ c ∧ c ≤ 999 := by
  unfold mayEnd at h
  simp only [Bool.and_eq_true, decide_eq_true_eq] at h
  exact ⟨name_le h.1, h.2⟩


namespace Vx
def sPkW : SpecW
  | l, b, [.agg [.str sp, .int .i64 sc, .str dp, .int .i64 dc, .int .i64 sq, .str da, .int .i64 th, .int .i64 ta]] => some (fitPk ⟨sp, sc, dp, dc, sq, da, th, ta⟩ l, .tup [], (wPk ⟨sp, sc, dp, dc, sq, da, th, ta⟩ (l, b)).1, (wPk ⟨sp, sc, dp, dc, sq, da, th, ta⟩ (l, b)).2)
  | _, _, _ => none

set_option maxRecDepth 100000 in
set_option maxHeartbeats 400000 in
theorem pkWP : MethW Try.prog 156 190 5 sPkW := by
  refine MethW.of (E := tb) (C := [(132, appW 190 5 sNum), (133, appW 190 5 sWText)]) [0, 1] 3 [] tb_ok (CtsOk.cons (MethW.ct numP) <| CtsOk.cons (MethW.ct wTextP) <| CtsOk.nil _) (by kernel_rfl) Try.func156 rfl rfl rfl (by kernel_rfl) (by kernel_rfl) ?_ ?_
  · intro l b args pre r l' b' h
    unfold sPkW at h
    split at h
    · cases h; first | rfl | exact ⟨rfl, rfl⟩
    · cases h
  · intro l b args pre r l' b' h hp
    unfold sPkW at h
    split at h
    rotate_left
    · cases h
    rename_i sp sc dp dc sq da th ta
    cases h
    unfold sNum sWText
    generalize hg0 : numW = g0
    generalize hg1 : numBad = g1
    generalize hg2 : fitNum = g2
    generalize hg3 : fitText = g3
    generalize hg4 : textW = g4
    generalize hg5 : fitPk = g5
    generalize hg6 : wPk = g6
    generalize hg7 : (List.length : List UInt8 → Nat) = g7
    generalize hA : Arith.std = A
    cbv
    subst hA hg0 hg1 hg2 hg3 hg4 hg5 hg6 hg7
    simp only [Arith.std, Int.reduceLT, Int.reduceLE, Int.reduceAdd, Int.reduceSub, Int.reduceEq, decide_true, decide_false, Bool.not_true, Bool.not_false, Ife_tt, Ife_ff, Need_tt, eq_self]
    obtain ⟨h1, h2, h3, h4, h5, h6, h7, h8, h9⟩ := hp
    dsimp only at h2 h3 h4 h5 h6 h7 h8 h9
    repeat'
      refine Need.mk ?_ fun _ => ?_
    all_goals first
      | exact ⟨rfl, rfl⟩
      | (apply fitText_of
         · repeat first | assumption | apply len_num | apply len_text
         · assumption
         · decide)
      | (apply fitNum_of
         · repeat first | assumption | apply len_num | apply len_text
         · assumption
         · decide)
      | (simp [fitStd]; done)



end Vx
end Go.Proofs.Ytcgoaicifjndpaa
end
