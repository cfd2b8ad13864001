/- Packets and events read, by the walker. -/
import Derived.Test.YtpapfokdhmpmjaaVRd
import Derived.Test.YtpapfokdhmpmjaaVEv
namespace Go.Proofs.Ytpapfokdhmpmjaa
set_option linter.unusedVariables false
set_option linter.unusedSimpArgs false

/-! What is read of the bytes l from a state on: a value, the state. -/
def rNum (lo hi : Int) (l : List UInt8) (s : Int × Int) : Int × Int × Int := numS l s.1 s.2 lo hi
def rText (hi : Int) (l : List UInt8) (s : Int × Int) : List UInt8 × Int × Int := textS l s.1 s.2 hi
def rEnd (l : List UInt8) (s : Int × Int) : (List UInt8 × Int) × Int × Int :=
  let a := rText 12 l s
  let b := rNum 0 999 l a.2
  ((a.1, b.1), b.2)
def rPk (l : List UInt8) (s : Int × Int) : Pkt × Int × Int :=
  let a := rEnd l s
  let b := rEnd l a.2
  let c := rNum 1 1099511627776 l b.2
  let d := rText 200 l c.2
  let e := rNum 0 1099511627776 l d.2
  let f := rNum 0 1099511627776 l e.2
  (⟨a.1.1, a.1.2, b.1.1, b.1.2, c.1, d.1, e.1, f.1⟩, f.2)
def rIf {α : Type} (c : Bool) (d : α) (r : List UInt8 → Int × Int → α × Int × Int) (l : List UInt8) (s : Int × Int) : α × Int × Int := if c then r l s else (d, s)
def rEv (l : List UInt8) (s : Int × Int) : Ev × Int × Int :=
  let k := rNum 1 7 l s
  let p := rIf (hasPk k.1) zeroPkt rPk l k.2
  let a := rIf (k.1 = 3) [] (rText 32) l p.2
  let e := rIf (k.1 = 6) ([], 0) rEnd l a.2
  let h := rIf (k.1 = 7) 0 (rNum 1 1099511627776) l e.2
  (⟨k.1, p.1, a.1, e.1.1, e.1.2, h.1⟩, h.2)
def decEv (l : List UInt8) : Ev × Int :=
  if (Leb.next l 0).2.2 ≠ 0 then (zeroEv, (Leb.next l 0).2.2)
  else if endS l (rEv l (0, 0)).2.1 (rEv l (0, 0)).2.2 ≠ 0 then (zeroEv, endS l (rEv l (0, 0)).2.1 (rEv l (0, 0)).2.2)
  else if mayEv (rEv l (0, 0)).1 then ((rEv l (0, 0)).1, 0) else (zeroEv, 1)

def okS (l : List UInt8) (s : Int × Int) : Prop := okRd l s.1 s.2
theorem okS_text {l : List UInt8} {s : Int × Int} {hi : Int} (h : okS l s) : okS l (rText hi l s).2 := ok_text h
theorem okS_num {l : List UInt8} {s : Int × Int} {lo hi : Int} (h : okS l s) : okS l (rNum lo hi l s).2 := ok_num h
theorem okS_end {l : List UInt8} {s : Int × Int} (h : okS l s) : okS l (rEnd l s).2 := okS_num (okS_text h)
theorem okS_pk {l : List UInt8} {s : Int × Int} (h : okS l s) : okS l (rPk l s).2 := okS_num (okS_num (okS_text (okS_num (okS_end (okS_end h)))))
theorem okS_if {α : Type} {c : Bool} {d : α} {r : List UInt8 → Int × Int → α × Int × Int} {l : List UInt8} {s : Int × Int} (h : okS l s) (k : okS l (r l s).2) : okS l (rIf c d r l s).2 := by
  unfold rIf
  split
  · exact k
  · exact h
theorem okS_ev {l : List UInt8} {s : Int × Int} (h : okS l s) : okS l (rEv l s).2 := by
  unfold rEv
  dsimp only
  refine okS_if (okS_if (okS_if (okS_if (okS_num h) (okS_pk (okS_num h))) (okS_text ?_)) (okS_end ?_)) (okS_num ?_)
  · exact okS_if (okS_num h) (okS_pk (okS_num h))
  · exact okS_if (okS_if (okS_num h) (okS_pk (okS_num h))) (okS_text (okS_if (okS_num h) (okS_pk (okS_num h))))
  · exact okS_if (okS_if (okS_if (okS_num h) (okS_pk (okS_num h))) (okS_text (okS_if (okS_num h) (okS_pk (okS_num h))))) (okS_end (okS_if (okS_if (okS_num h) (okS_pk (okS_num h))) (okS_text (okS_if (okS_num h) (okS_pk (okS_num h))))))

theorem ok_pk' {l : List UInt8} {a b : Int} (h : okRd l a b) : okRd l (rPk l (a, b)).2.1 (rPk l (a, b)).2.2 := okS_pk (s := (a, b)) h
theorem ok_end' {l : List UInt8} {a b : Int} (h : okRd l a b) : okRd l (rEnd l (a, b)).2.1 (rEnd l (a, b)).2.2 := okS_end (s := (a, b)) h
theorem ok_ev' {l : List UInt8} {a b : Int} (h : okRd l a b) : okRd l (rEv l (a, b)).2.1 (rEv l (a, b)).2.2 := okS_ev (s := (a, b)) h

theorem text_len (l : List UInt8) (a b hi : Int) : (textS l a b hi).1.length ≤ l.length := by
  unfold textS
  split
  · simp
  · split
    · simp
    · split
      · simp
      · split
        · simp
        · simp only [cut]
          rw [List.length_take, List.length_drop]
          omega
theorem rEv_fits {l : List UInt8} {s : Int × Int} (h : l.length ≤ 140737488351232) : (rEv l s).1.fits := by
  have k : ∀ (a b hi : Int), (textS l a b hi).1.length ≤ 9223372036854775807 := fun a b hi => by have := text_len l a b hi; omega
  unfold rEv rIf
  dsimp only
  refine ⟨?_, ?_, ?_⟩
  · split
    · exact ⟨k _ _ _, k _ _ _, k _ _ _⟩
    · exact ⟨by simp [zeroPkt], by simp [zeroPkt], by simp [zeroPkt]⟩
  · dsimp only
    split
    · exact k _ _ _
    · simp
  · dsimp only
    split
    · exact k _ _ _
    · simp
theorem hasPk3 : hasPk 3 = true := rfl
theorem hasPk6 : hasPk 6 = false := rfl
theorem hasPk7 : hasPk 7 = false := rfl
namespace Vx
def sEnd : Spec1
  | [.str l, .int .i64 a, .int .i64 b], [] => some (okRd l a b, .agg [.str (rEnd l (a, b)).1.1, .int .i64 (rEnd l (a, b)).1.2], [.str l, .int .i64 (rEnd l (a, b)).2.1, .int .i64 (rEnd l (a, b)).2.2])
  | _, _ => none

def sRdPk : Spec1
  | [.str l, .int .i64 a, .int .i64 b], [] => some (okRd l a b, .agg (pkC (rPk l (a, b)).1), [.str l, .int .i64 (rPk l (a, b)).2.1, .int .i64 (rPk l (a, b)).2.2])
  | _, _ => none

def sRdEv : Spec1
  | [.str l, .int .i64 a, .int .i64 b], [] => some (okRd l a b, .agg (evC (rEv l (a, b)).1), [.str l, .int .i64 (rEv l (a, b)).2.1, .int .i64 (rEv l (a, b)).2.2])
  | _, _ => none

def sDec : List SV → Option (Prop × SV)
  | [.c (.str l)] => some (l.length ≤ 140737488351232, .tup [(none, evC (decEv l).1), (some (.int .i64 (decEv l).2), [])])
  | _ => none

set_option maxRecDepth 100000 in
set_option maxHeartbeats 400000 in
theorem endP : Meth Try.prog 75 86 sEnd := by
  refine Meth.of (E := tb) (C := [(42, appMeth 86 sRdText), (43, appMeth 86 sRdNum)]) [1] 0 [] tb_ok (CtsOk.cons (Meth.ct rdTextP) <| CtsOk.cons (Meth.ct rdNumP) <| CtsOk.nil _) (by kernel_rfl) Try.func75 rfl rfl rfl (by kernel_rfl) (by kernel_rfl) ?_ ?_
  · intro cs args pre r cs' h
    unfold sEnd at h
    split at h
    · cases h; first | rfl | exact ⟨rfl, rfl⟩
    · cases h
  · intro cs args pre r cs' h hp
    unfold sEnd at h
    split at h
    rotate_left
    · cases h
    rename_i l a b
    cases h
    unfold sRdText sRdNum
    generalize hg0 : textS = g0
    generalize hg1 : numS = g1
    generalize hg2 : okRd = g2
    generalize hg3 : rEnd = g3
    generalize hA : Arith.std = A
    cbv
    subst hA hg0 hg1 hg2 hg3
    repeat' first | refine Need.mk ?_ fun _ => ?_ | with_reducible refine And.intro ?_ ?_
    all_goals first
      | exact trivial
      | rfl
      | (repeat first | assumption | with_reducible apply ok_text | with_reducible apply ok_num | with_reducible apply ok_pk' | with_reducible apply ok_end'
         done)

set_option maxRecDepth 100000 in
set_option maxHeartbeats 400000 in
theorem rdPkP : Meth Try.prog 69 86 sRdPk := by
  refine Meth.of (E := tb) (C := [(75, appMeth 86 sEnd), (42, appMeth 86 sRdText), (43, appMeth 86 sRdNum)]) [1] 0 [] tb_ok (CtsOk.cons (Meth.ct endP) <| CtsOk.cons (Meth.ct rdTextP) <| CtsOk.cons (Meth.ct rdNumP) <| CtsOk.nil _) (by kernel_rfl) Try.func69 rfl rfl rfl (by kernel_rfl) (by kernel_rfl) ?_ ?_
  · intro cs args pre r cs' h
    unfold sRdPk at h
    split at h
    · cases h; first | rfl | exact ⟨rfl, rfl⟩
    · cases h
  · intro cs args pre r cs' h hp
    unfold sRdPk at h
    split at h
    rotate_left
    · cases h
    rename_i l a b
    cases h
    unfold sEnd sRdText sRdNum
    generalize hg0 : textS = g0
    generalize hg1 : numS = g1
    generalize hg2 : okRd = g2
    generalize hg3 : rEnd = g3
    generalize hg4 : rPk = g4
    generalize hA : Arith.std = A
    cbv
    subst hA hg0 hg1 hg2 hg3 hg4
    repeat' first | refine Need.mk ?_ fun _ => ?_ | with_reducible refine And.intro ?_ ?_
    all_goals first
      | exact trivial
      | rfl
      | (repeat first | assumption | with_reducible apply ok_text | with_reducible apply ok_num | with_reducible apply ok_pk' | with_reducible apply ok_end'
         done)

set_option maxRecDepth 100000 in
set_option maxHeartbeats 400000 in
theorem rdEvP : Meth Try.prog 46 86 sRdEv := by
  refine Meth.of (E := tb) (C := [(69, appMeth 86 sRdPk), (32, appPure sPacked), (42, appMeth 86 sRdText), (43, appMeth 86 sRdNum)]) [1] 0 [] tb_ok (CtsOk.cons (Meth.ct rdPkP) <| CtsOk.cons (Pure.ct packedP) <| CtsOk.cons (Meth.ct rdTextP) <| CtsOk.cons (Meth.ct rdNumP) <| CtsOk.nil _) (by kernel_rfl) Try.func46 rfl rfl rfl (by kernel_rfl) (by kernel_rfl) ?_ ?_
  · intro cs args pre r cs' h
    unfold sRdEv at h
    split at h
    · cases h; first | rfl | exact ⟨rfl, rfl⟩
    · cases h
  · intro cs args pre r cs' h hp
    unfold sRdEv at h
    split at h
    rotate_left
    · cases h
    rename_i l a b
    cases h
    unfold sRdPk sPacked sRdText sRdNum
    generalize hg0 : textS = g0
    generalize hg1 : numS = g1
    generalize hg2 : okRd = g2
    generalize hg3 : rPk = g3
    generalize hg4 : rEv = g4
    generalize hg5 : hasPk = g5
    generalize hA : Arith.std = A
    cbv
    subst hA hg0 hg1 hg2 hg3 hg4 hg5
    repeat' first | refine Need.mk ?_ fun _ => ?_ | refine Ife.mk (fun _ => ?_) (fun _ => ?_)
    all_goals first
      | exact trivial
      | (repeat first | assumption | with_reducible apply ok_text | with_reducible apply ok_num | with_reducible apply ok_pk' | with_reducible apply ok_end'
         done)
      | skip
    all_goals
      simp only [Arith.std, decide_eq_true_eq, decide_eq_false_iff_not] at *
      first
        | (simp [rEv, rIf, rNum, rText, rEnd, zeroPkt, *, hasPk3, hasPk6, hasPk7]
           done)
        | (exfalso
           simp_all [hasPk]
           done)

set_option maxRecDepth 100000 in
set_option maxHeartbeats 400000 in
theorem decP : Pure Try.prog 20 sDec := by
  refine Pure.of (E := tb) (C := [(45, appPure sLebNext), (41, appMakes 86 sOf), (46, appMeth 86 sRdEv), (47, appMeth 86 sRdEnd), (13, appPure sMayEv)]) [0] 0 [] tb_ok (CtsOk.cons (Pure.ct lebNextP) <| CtsOk.cons (Makes.ct ofP) <| CtsOk.cons (Meth.ct rdEvP) <| CtsOk.cons (Meth.ct rdEndP) <| CtsOk.cons (Pure.ct mayP) <| CtsOk.nil _) (by kernel_rfl) Try.func20 rfl rfl rfl (by kernel_rfl) (by kernel_rfl) ?_ ?_
  · intro args pre r h
    unfold sDec at h
    split at h
    · cases h; first | rfl | exact ⟨rfl, rfl⟩
    · cases h
  · intro args pre r h hp
    unfold sDec at h
    split at h
    rotate_left
    · cases h
    rename_i l
    cases h
    unfold sLebNext sOf sRdEv sRdEnd sMayEv
    generalize hg0 : okRd = g0
    generalize hg1 : rEv = g1
    generalize hg2 : decEv = g2
    generalize hg3 : Leb.next = g3
    generalize hg4 : isI64 = g4
    generalize hg5 : endS = g5
    generalize hg6 : Ev.fits = g6
    generalize hg7 : mayEv = g7
    generalize hg8 : (List.length : List UInt8 → Nat) = g8
    generalize hA : Arith.std = A
    cbv
    subst hA hg0 hg1 hg2 hg3 hg4 hg5 hg6 hg7 hg8
    have hf := rEv_fits (l := l) (s := (0, 0)) hp
    have h0 : okRd l 0 0 := ok_start hp
    refine Need.mk ⟨hp, by unfold isI64; omega⟩ fun _ => ?_
    refine Ife.mk (fun c1 => ?_) (fun c1 => ?_)
    · have c1 : (Leb.next l 0).2.2 ≠ 0 := by simpa [Arith.std] using c1
      simp [decEv, c1, zeroEv, zeroPkt]
    have c1 : (Leb.next l 0).2.2 = 0 := by simpa [Arith.std] using c1
    refine Need.mk trivial fun _ => ?_
    refine Need.mk h0 fun _ => ?_
    refine Need.mk (ok_ev' h0) fun _ => ?_
    refine Ife.mk (fun c2 => ?_) (fun c2 => ?_)
    · have c2 : endS l (rEv l (0, 0)).2.1 (rEv l (0, 0)).2.2 ≠ 0 := by simpa [Arith.std] using c2
      simp [decEv, c1, c2, zeroEv, zeroPkt]
    have c2 : endS l (rEv l (0, 0)).2.1 (rEv l (0, 0)).2.2 = 0 := by simpa [Arith.std] using c2
    refine Need.mk hf fun _ => ?_
    refine Ife.mk (fun c3 => ?_) (fun c3 => ?_)
    · have c3 : mayEv (rEv l (0, 0)).1 = false := by simpa [Arith.std] using c3
      simp [decEv, c1, c2, c3, zeroEv, zeroPkt]
    · have c3 : mayEv (rEv l (0, 0)).1 = true := by simpa [Arith.std] using c3
      simp [decEv, c1, c2, c3]

end Vx
end Go.Proofs.Ytpapfokdhmpmjaa
