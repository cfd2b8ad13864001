/- Writers, by the walker. -/
import Derived.Test.YtophhppklaofaaaDoorVTbl
import Derived.Test.YtophhppklaofaaaDoorM11
import Derived.Test.YtophhppklaofaaaDoorLebWalks
namespace Go.Proofs.YtophhppklaofaaaDoor
set_option linter.unusedVariables false
set_option linter.unusedSimpArgs false

def putW (l m : List UInt8) (bad : Bool) : List UInt8 := if bad then l else l ++ m
def numBad (v : Int) (bad : Bool) : Bool := bad || decide (Leb.put v = [])
def numW (l : List UInt8) (v : Int) (bad : Bool) : List UInt8 := putW l (Leb.put v) (numBad v bad)
def textW (l m : List UInt8) (bad : Bool) : List UInt8 := putW (numW l m.length bad) m (numBad m.length bad)
def isI64 (v : Int) : Prop := -9223372036854775808 ≤ v ∧ v ≤ 9223372036854775807
def fitPut (l m : List UInt8) : Prop := l.length + m.length ≤ 140737488355328
def fitNum (l : List UInt8) (v : Int) : Prop := isI64 v ∧ l.length ≤ 140737488351232
def fitText (l m : List UInt8) : Prop := l.length + m.length ≤ 140737488351000
def bytesW (l : List UInt8) (b : Bool) : List UInt8 := if b then [] else l
def badW (b : Bool) : Int := if b then 1 else 0

theorem put_le (v : Int) : (Leb.put v).length ≤ 9 := by
  unfold Leb.put
  split
  · have := Leb.putF_length 7 v.toNat
    omega
  · simp
theorem num_le (l : List UInt8) (v : Int) (b : Bool) : (numW l v b).length ≤ l.length + 9 := by
  have := put_le v
  unfold numW putW
  split
  · omega
  · simp; omega

namespace Vx
def sLebPut : List SV → Option (Prop × SV)
  | [.c (.int .i64 v)] => some (isI64 v, .c (.str (Leb.put v)))
  | _ => none

def sPut : SpecW
  | l, b, [.c (.str m)] => some (fitPut l m, .tup [], putW l m b, b)
  | _, _, _ => none

def sNum : SpecW
  | l, b, [.c (.int .i64 v)] => some (fitNum l v, .tup [], numW l v b, numBad v b)
  | _, _, _ => none

def sWText : SpecW
  | l, b, [.c (.str m)] => some (fitText l m, .tup [], textW l m b, numBad m.length b)
  | _, _, _ => none

def sBytes : SpecW
  | l, b, [] => some (True, .tup [(some (.str (bytesW l b)), []), (some (.int .i64 (badW b)), [])], l, b)
  | _, _, _ => none

theorem lebPutP : Pure Tryd.prog 136 sLebPut := by
  refine ⟨by kernel_rfl, fun args pre r h hp us hs W => ?_⟩
  unfold sLebPut at h
  split at h
  rotate_left
  · cases h
  rename_i v
  cases h
  obtain ⟨u0, _, rfl, a0, b0⟩ := hs
  obtain rfl : .int .i64 v = u0 := Option.some.inj a0
  cases b0
  refine Calls.mono (lebPut v W hp) fun e W' he => ?_
  obtain ⟨rfl, hb⟩ := he
  exact ⟨_, rfl, rfl, hb⟩

set_option maxRecDepth 100000 in
set_option maxHeartbeats 400000 in
theorem putP : MethW Tryd.prog 135 136 5 sPut := by
  refine MethW.of (E := tb) (C := []) [] 0 [] tb_ok (CtsOk.nil _) (by kernel_rfl) Tryd.func135 rfl rfl rfl (by kernel_rfl) (by kernel_rfl) ?_ ?_
  · intro l b args pre r l' b' h
    unfold sPut at h
    split at h
    · cases h; first | rfl | exact ⟨rfl, rfl⟩
    · cases h
  · intro l b args pre r l' b' h hp
    unfold sPut at h
    split at h
    rotate_left
    · cases h
    rename_i m
    cases h
    generalize hg0 : putW = g0
    generalize hg1 : fitPut = g1
    generalize hA : Arith.std = A
    cbv
    subst hA hg0 hg1
    simp only [Ife_iff, Need_iff, Arith.std]
    refine ⟨fun h => ⟨hp, fun _ => ?_⟩, fun h => ?_⟩ <;> cases b <;> simp_all [putW, fitPut]

set_option maxRecDepth 100000 in
set_option maxHeartbeats 400000 in
theorem numP : MethW Tryd.prog 116 136 5 sNum := by
  refine MethW.of (E := tb) (C := [(136, appPure sLebPut), (135, appW 136 5 sPut)]) [] 0 [] tb_ok (CtsOk.cons (Pure.ct lebPutP) <| CtsOk.cons (MethW.ct putP) <| CtsOk.nil _) (by kernel_rfl) Tryd.func116 rfl rfl rfl (by kernel_rfl) (by kernel_rfl) ?_ ?_
  · intro l b args pre r l' b' h
    unfold sNum at h
    split at h
    · cases h; first | rfl | exact ⟨rfl, rfl⟩
    · cases h
  · intro l b args pre r l' b' h hp
    unfold sNum at h
    split at h
    rotate_left
    · cases h
    rename_i v
    cases h
    unfold sLebPut sPut
    generalize hg0 : putW = g0
    generalize hg1 : fitPut = g1
    generalize hg2 : Leb.put = g2
    generalize hg3 : numW = g3
    generalize hg4 : numBad = g4
    generalize hg5 : fitNum = g5
    generalize hg6 : isI64 = g6
    generalize hA : Arith.std = A
    cbv
    subst hA hg0 hg1 hg2 hg3 hg4 hg5 hg6
    simp only [Ife_iff, Need_iff, Arith.std]
    have hl := put_le v
    have hf : fitPut l (Leb.put v) := by have := hp.2; unfold fitPut; omega
    refine ⟨hp.1, fun _ => ⟨fun h => ⟨hf, fun _ => ?_⟩, fun h => ⟨hf, fun _ => ?_⟩⟩⟩ <;> subst h <;> simp [numW, numBad]

set_option maxRecDepth 100000 in
set_option maxHeartbeats 400000 in
theorem wTextP : MethW Tryd.prog 115 136 5 sWText := by
  refine MethW.of (E := tb) (C := [(116, appW 136 5 sNum), (135, appW 136 5 sPut)]) [] 0 [] tb_ok (CtsOk.cons (MethW.ct numP) <| CtsOk.cons (MethW.ct putP) <| CtsOk.nil _) (by kernel_rfl) Tryd.func115 rfl rfl rfl (by kernel_rfl) (by kernel_rfl) ?_ ?_
  · intro l b args pre r l' b' h
    unfold sWText at h
    split at h
    · cases h; first | rfl | exact ⟨rfl, rfl⟩
    · cases h
  · intro l b args pre r l' b' h hp
    unfold sWText at h
    split at h
    rotate_left
    · cases h
    rename_i m
    cases h
    unfold sNum sPut
    generalize hg0 : putW = g0
    generalize hg1 : fitPut = g1
    generalize hg2 : numW = g2
    generalize hg3 : numBad = g3
    generalize hg4 : fitNum = g4
    generalize hg5 : fitText = g5
    generalize hg6 : textW = g6
    generalize hg7 : (List.length : List UInt8 → Nat) = g7
    generalize hA : Arith.std = A
    cbv
    subst hA hg0 hg1 hg2 hg3 hg4 hg5 hg6 hg7
    simp only [Ife_iff, Need_iff, Arith.std]
    have hl := num_le l m.length b
    unfold fitText at hp
    refine ⟨⟨by unfold isI64; omega, by omega⟩, fun _ => ⟨by unfold fitPut; omega, fun _ => ⟨rfl, trivial⟩⟩⟩

set_option maxRecDepth 100000 in
set_option maxHeartbeats 400000 in
theorem bytesP : MethW Tryd.prog 88 136 5 sBytes := by
  refine MethW.of (E := tb) (C := []) [] 0 [] tb_ok (CtsOk.nil _) (by kernel_rfl) Tryd.func88 rfl rfl rfl (by kernel_rfl) (by kernel_rfl) ?_ ?_
  · intro l b args pre r l' b' h
    unfold sBytes at h
    split at h
    · cases h; first | rfl | exact ⟨rfl, rfl⟩
    · cases h
  · intro l b args pre r l' b' h hp
    unfold sBytes at h
    split at h
    rotate_left
    · cases h
    cases h
    generalize hg0 : bytesW = g0
    generalize hg1 : badW = g1
    generalize hA : Arith.std = A
    cbv
    subst hA hg0 hg1
    simp only [Ife_iff, Need_iff, Arith.std]
    cases b <;> simp [bytesW, badW]

theorem newWP : MakesW Tryd.prog 86 136 5 := by
  have h : Pure Tryd.prog 86 (fun _ => none) := ⟨by kernel_rfl, fun _ _ _ h => by cases h⟩
  refine ⟨h.fn, fun W => ?_⟩
  have := fn_ok (P := Tryd.prog) (N := env (lft Tryd.prog 0) 0 .std tb [] []) rfl tb_ok (CtsOk.nil _) (by kernel_rfl) [] Tryd.func86 rfl rfl rfl (by kernel_rfl) (args := []) (us := []) (h := []) (fun c st K _ h => h) (Rel.refl W) rfl
    (fun v h => match v with
      | .c (.ptr k 0) => match h[k]? with
        | some (.cells t [.val (.slice none 0 0), .ff]) => t = 136
        | _ => False
      | _ => False) (by
        generalize hA : Arith.std = A
        cbv)
  refine Calls.mono this fun e W' he => ?_
  obtain ⟨v, u, ρ', h', rfl, h1, h2, h3⟩ := he
  split at h3
  · rename_i k
    split at h3
    · rename_i t hk
      subst h3
      simp only [List.nil_append] at h1 h2
      obtain ⟨p, hp, rfl⟩ := den_ptr h1
      obtain ⟨vs, hv1, hv2⟩ := h2.ok k _ p hk hp
      have hown := (h2.own k p.b (by rw [fp_mk hk hp]; rfl)).2
      obtain rfl := hv1.unique (show IsL _ _ [.slice none 0 0, .bool false] from rfl)
      exact ⟨p.b, rfl, hv2, hown.resolve_left (by simp), h2.toBelow⟩
    · exact h3.elim
  · exact h3.elim

end Vx
end Go.Proofs.YtophhppklaofaaaDoor
