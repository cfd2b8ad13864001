/- Transactions, plainly: what is written is read back, what is read is written so; a message that may be is short. -/
import Derived.Test.YtcgoaicifjndpaaM42
import Derived.Test.YtcgoaicifjndpaaM34
import Derived.Test.YtcgoaicifjndpaaM41
section
namespace Go.Proofs.Ytcgoaicifjndpaa.Vx
open Go.RowKit
set_option linter.unusedVariables false
set_option linter.unusedSimpArgs false
theorem ifB_len {c : Bool} {l : List UInt8} {V W : Prop} {k : Nat} (h : if c then V else W) (hv : V → l.length ≤ k) : (if c then l else []).length ≤ k := by
  cases c
  · exact Nat.zero_le _
  · exact hv h
theorem leafB_small {x : PLeaf} (h : leafV x) : (leafB x).length ≤ 1300 := by
  obtain ⟨h1, h2, h3, h4, h5⟩ := h
  have a1 := textB_len x.k
  have a2 := textB_len x.v
  have a3 := Leb.put_len_le x.i
  have a4 := Leb.put_len_le (x.p.length : Int)
  have a5 := flatE_le (E := hashOf) (c := 32) (p := x.p) fun h hh => by rw [hashOf_len, (h5 h hh).1]; omega
  unfold leafB
  simp only [List.length_append]
  omega
theorem proofB_small {p : Int × List PLeaf} (h : proofV p) : (proofB p).length ≤ 2700 := by
  obtain ⟨h1, h2, h3⟩ := h
  have a3 := Leb.put_len_le p.1
  have a4 := Leb.put_len_le (p.2.length : Int)
  have a5 := flatE_le (E := leafB) (c := 1300) (p := p.2) fun x hx => leafB_small (h3 x hx)
  unfold proofB
  simp only [List.length_append]
  omega
theorem pkB_small {p : Pkt} (h : pkV p) : (pkB p).length ≤ 400 := by
  obtain ⟨⟨h1, -⟩, ⟨h2, -⟩, -, h3, -⟩ := h
  have a1 := textB_len p.sp
  have a2 := textB_len p.dp
  have a3 := textB_len p.data
  have b1 := Leb.put_len_le p.sc
  have b2 := Leb.put_len_le p.dc
  have b3 := Leb.put_len_le p.seq
  have b4 := Leb.put_len_le p.th
  have b5 := Leb.put_len_le p.ta
  unfold pkB
  simp only [List.length_append]
  omega
theorem hdrB_small {z : Int × Int × List Int} (h : hdrV z) : (hdrB z).length ≤ 50 := by
  have a3 := Leb.put_len_le z.1
  have a4 := Leb.put_len_le z.2.1
  have a5 := hashOf_len z.2.2
  have a6 := h.2.2.1
  unfold hdrB
  simp only [List.length_append]
  omega
theorem msgB_small {m : PMsg} (h : msgV m) : (msgB m).length ≤ 6500 := by
  obtain ⟨hk, h1, h2, h3, h4, h5, h6, h7⟩ := h
  have a0 := Leb.put_len_le m.kind
  have a1 := ifB_len (l := hdrB (restOf m).1) h1 hdrB_small
  have a2 := ifB_len (l := pkB (restOf m).2.1) h2 pkB_small
  have a3 := ifB_len (l := textB (restOf m).2.2.1) (k := 41) h3 fun h => by have := textB_len (restOf m).2.2.1; omega
  have a4 := ifB_len (l := Leb.put (restOf m).2.2.2.1) (k := 8) h4 fun h => Leb.put_len_le _
  have a5 := ifB_len (l := Leb.put (restOf m).2.2.2.2.1) (k := 8) h5 fun h => Leb.put_len_le _
  have a6 := ifB_len (l := proofB (restOf m).2.2.2.2.2.1) h6 proofB_small
  have a7 := ifB_len (l := proofB (restOf m).2.2.2.2.2.2) h7 proofB_small
  unfold msgB restB
  simp only [List.length_append]
  omega
end Go.Proofs.Ytcgoaicifjndpaa.Vx
end

section
/- The law MsgTells, by the walker. -/
namespace Go.Proofs.Ytcgoaicifjndpaa.Vx
open Go.RowKit
set_option linter.unusedVariables false
set_option linter.unusedSimpArgs false
def sSizeM : SpecF
  | [.agg cs], [.data fr ty sz n get, .data fr' ty' sz' n' get'] => some (msgPre cs (.row 0) (.row 1) ty sz n get ty' sz' n' get', .c (.int .i64 ((encMsg (msgOf cs n get n' get')).1.length : Int)), [.dead, .dead])
  | _, _ => none

set_option maxRecDepth 100000 in
set_option maxHeartbeats 16000000 in
theorem sizeMP : Fn Try.prog 51 [] [(140, 204), (140, 204)] sSizeM := by
  have hC : CtsOk Try.prog [(61, appFn [] [(140, 204), (140, 204)] sEncM)] := CtsOk.cons (Fn.ct encMP) <| CtsOk.nil _
  refine Fn.of (E := tbR) [] 0 [] tbR_ok hC (by kernel_rfl) Try.func51 rfl rfl rfl (by kernel_rfl) (by kernel_rfl) 2 5 1 ?_ ?_
  · intro args h pre r h' hs
    unfold sSizeM at hs
    split at hs
    · cases hs; exact ⟨rfl, rfl, Nat.le_of_ble_eq_true rfl⟩
    · cases hs
  · intro args h pre r h' hs hp
    unfold sSizeM at hs
    split at hs
    rotate_left
    · cases hs
    rename_i cs fr ty sz n get fr' ty' sz' n' get'
    cases hs
    obtain ⟨hcs, ⟨rfl, rfl, hst, hok, hm⟩, ⟨rfl, rfl, hst', hok', hm'⟩, hfit⟩ := hp
    refine ⟨[.data fr 140 4 n (leafG false (leafL n get)), .data fr' 140 4 n' (leafG false (leafL n' get'))], ⟨⟨rfl, rfl, rfl, rfl, fun i j hi hj => by rw [hst i j hi hj]; exact Cell.le_refl _⟩, ⟨rfl, rfl, rfl, rfl, fun i j hi hj => by rw [hst' i j hi hj]; exact Cell.le_refl _⟩, trivial⟩, ?_⟩
    have hL : (leafL n get).length = n := leafL_len
    have hL' : (leafL n' get').length = n' := leafL_len
    have e1 : (msgOf cs n get n' get').pl = leafL n get := rfl
    have e2 : (msgOf cs n get n' get').cl = leafL n' get' := rfl
    generalize msgOf cs n get n' get' = m at *
    subst hcs
    obtain ⟨k, hh, ht, hr, ⟨sp, sc, dp, dc, sq, da, th, ta⟩, ack, nx, hg, pc, pl, cc, cl⟩ := m
    replace e1 : pl = leafL n get := e1
    replace e2 : cl = leafL n' get' := e2
    clear hst hst'
    subst e1 e2
    generalize leafL n get = pl at *
    generalize leafL n' get' = cl at *
    have hok0 : MsgOk ⟨k, hh, ht, hr, ⟨sp, sc, dp, dc, sq, da, th, ta⟩, ack, nx, hg, pc, pl, cc, cl⟩ := ⟨hfit, hok, hok', by show pl.length ≤ _; omega, by show cl.length ≤ _; omega⟩
    obtain ⟨hpk, hack, hrl, hrb⟩ := hfit
    replace hack : ack.length ≤ 1000000000 := hack
    replace hrl : hr.length = 32 := hrl
    replace hrb : ∀ b ∈ hr, 0 ≤ b ∧ b < 256 := hrb
    unfold sEncM
    generalize hg0 : (List.length : List UInt8 → Nat) = g0
    try unfold leafG
    try unfold msgC
    generalize ho0 : @lK = zo0, ho1 : @lV = zo1, ho2 : @lI = zo2, ho3 : @lP = zo3, ho4 : @lN = zo4, ho5 : @pG = zo5, ho6 : @leafL = zo6, ho7 : @rN = zo7, ho8 : @msgPre = zo8, ho9 : @msgOf = zo9, ho10 : @encMsg = zo10
    generalize hA : Arith.std = A
    cbv
    subst hA hg0 ho0 ho1 ho2 ho3 ho4 ho5 ho6 ho7 ho8 ho9 ho10
    refine Need.mk (msgPre_n (m := ⟨k, hh, ht, hr, ⟨sp, sc, dp, dc, sq, da, th, ta⟩, ack, nx, hg, pc, pl, cc, cl⟩) hok0 hL hL') fun _ => ?_
    have z := msgOf_n (m := ⟨k, hh, ht, hr, ⟨sp, sc, dp, dc, sq, da, th, ta⟩, ack, nx, hg, pc, pl, cc, cl⟩) (a := .row 0) (b := .row 1) (fr := false) (fr' := false) hok0 hL hL'
    simp only [msgC, msgCP, h32, pkC, List.cons_append, List.nil_append] at z
    rw [z]
    exact ⟨[0, 1], ⟨rfl, by repeat' (first | exact trivial | exact rfl | apply And.intro | exact (fun _ _ _ _ => Cell.le_refl _) | (intro i hi; rfl) | (intro i hi; exact absurd hi (Nat.not_lt_zero _))), by decide, rfl, by repeat' (first | exact trivial | exact rfl | apply And.intro | exact (fun _ _ _ _ => Cell.le_refl _) | (intro i hi; rfl) | (intro i hi; exact absurd hi (Nat.not_lt_zero _)))⟩⟩



end Go.Proofs.Ytcgoaicifjndpaa.Vx
namespace Go.Proofs.Ytcgoaicifjndpaa
open Go.RowKit
set_option linter.unusedVariables false
end Go.Proofs.Ytcgoaicifjndpaa
end
