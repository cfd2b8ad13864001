/- The law GasTells, by the walker. -/
import Derived.Test.YtcgoaicifjndpaaVGas1
import Derived.Test.YtcgoaicifjndpaaM46
namespace Go.Proofs.Ytcgoaicifjndpaa.Vx
open Go.RowKit
set_option linter.unusedVariables false
set_option linter.unusedSimpArgs false
def sGasTells : SpecF
  | [.c (.row 0)], [.data false ty sz n get] => some (msgsPre0 ty sz n get, .c .tt, [.dead])
  | _, _ => none

set_option maxRecDepth 100000 in
set_option maxHeartbeats 32000000 in
theorem gasTellsP : Fn Try.prog 6 [] [(74, 250)] sGasTells := by
  have hC : CtsOk Try.prog [(43, appPure sTrue17), (44, appFn [] [(74, 250)] sLightMs), (45, appFn [] [(140, 204), (140, 204)] sPriceM), (46, appFn [] [(140, 204), (140, 204)] sPriceM), (47, appFn [] [(140, 204), (140, 204)] sMayM), (48, appFn [] [(74, 250)] sTotalM)] := CtsOk.cons (Pure.ct first17P) <| CtsOk.cons (Fn.ct lightMsP) <| CtsOk.cons (Fn.ct priceP) <| CtsOk.cons (Fn.ct rpriceP) <| CtsOk.cons (Fn.ct rmayMP) <| CtsOk.cons (Fn.ct totalP) <| CtsOk.nil _
  refine Fn.of (E := tbR) [] 0 [] tbR_ok hC (by kernel_rfl) Try.func6 rfl rfl rfl (by kernel_rfl) (by kernel_rfl) 1 5 1 ?_ ?_
  · intro args h pre r h' hs
    unfold sGasTells at hs
    split at hs
    · cases hs; exact ⟨rfl, rfl, Nat.le_of_ble_eq_true rfl⟩
    · cases hs
  · intro args h pre r h' hs hp
    unfold sGasTells at hs
    split at hs
    rotate_left
    · cases hs
    rename_i ty sz n get
    cases hs
    obtain ⟨rfl, rfl, hst, hraw, hm⟩ := hp
    have k0 := msgs0 hst hraw
    refine ⟨[.data false 74 50 n (msgG false (msgsL n get))], ⟨⟨rfl, rfl, rfl, rfl, fun i j hi hj => by rw [hst i j hi hj]; exact Cell.le_refl _⟩, trivial⟩, ?_⟩
    have hL : (msgsL n get).length = n := msgsL_len
    generalize msgsL n get = L at *
    clear hst
    have hrw := gM_all hraw zero_raw
    unfold sTrue17 sLightMs sPriceM sMayM sTotalM
    generalize hg0 : (List.length : List UInt8 → Nat) = g0
    generalize hL : lft Try.prog _ = L
    try unfold leafG
    try unfold msgCl
    try unfold msgG
    try unfold msgC
    generalize ho0 : @lK = zo0, ho1 : @lV = zo1, ho2 : @lI = zo2, ho3 : @lP = zo3, ho4 : @lN = zo4, ho5 : @pG = zo5, ho6 : @rN = zo6, ho7 : @msgPre = zo7, ho8 : @lenL = zo8, ho9 : @mayM = zo9, ho10 : @msgOf = zo10, ho11 : @gM = zo11, ho12 : @msgsL = zo12, ho13 : @msgsPre = zo13, ho14 : @msgsPre0 = zo14, ho15 : @lightMs = zo15, ho16 : @priceM = zo16, ho17 : @totalM = zo17
    generalize hA : Arith.std = A
    cbv
    subst hA hg0 hL ho0 ho1 ho2 ho3 ho4 ho5 ho6 ho7 ho8 ho9 ho10 ho11 ho12 ho13 ho14 ho15 ho16 ho17
    refine Need.mk trivial fun _ => ?_
    refine Need.mk (msgsPre0_n hL hraw hm) fun _ => ?_
    rw [k0]
    refine Ife.mk (fun hl => ?_) (fun hl => ?_)
    · refine Need.mk trivial fun _ => ?_
      exact ⟨[0], ⟨rfl, by repeat' (first | exact trivial | exact rfl | apply And.intro | exact (fun _ _ _ _ => Cell.le_refl _) | (intro i hi; rfl) | (intro i hi; exact absurd hi (Nat.not_lt_zero _))), by decide, rfl, by repeat' (first | exact trivial | exact rfl | apply And.intro | exact (fun _ _ _ _ => Cell.le_refl _) | (intro i hi; rfl) | (intro i hi; exact absurd hi (Nat.not_lt_zero _)))⟩⟩
    replace hl : (!lightMs L) = false := hl
    rw [Bool.not_eq_false'] at hl
    obtain ⟨hn, hok⟩ := lightMs_ok hl hraw
    have hn : n ≤ 70 := by omega
    have ho := gM_all hok zeroMsg_ok
    show Runs Try.prog 1 (.loop _) _ _
    refine loop_ruleL (N := env (lft Try.prog 1) 0 .std tbR [(43, appPure sTrue17), (44, appFn [] [(74, 250)] sLightMs), (45, appFn [] [(140, 204), (140, 204)] sPriceM), (46, appFn [] [(140, 204), (140, 204)] sPriceM), (47, appFn [] [(140, 204), (140, 204)] sMayM), (48, appFn [] [(74, 250)] sTotalM)] []) rfl tbR_ok hC (fun c st K _ h => h) (by kernel_rfl) [] (X := LGs L)
      (S := fun x => ⟨[.c (.row 0), .any, .any, .c (.int .i64 x.s), .c (.int .i64 x.i)] ++ List.replicate 50 .any, [.data false 74 50 n (msgG false L)]⟩) (μ := fun x => L.length - x.k) ⟨0, 0, 0, rfl, by omega, by simp [totalM]⟩ (by kernel_rfl) [0] ?_ ?_
    · refine ⟨rfl, by show List.Nodup []; exact List.nodup_nil, ?_, ?_⟩ <;> repeat' (first | exact trivial | exact rfl | apply And.intro | exact (fun _ _ _ _ => Cell.le_refl _) | (intro i hi; rfl) | (intro i hi; exact absurd hi (Nat.not_lt_zero _)))
    rintro ⟨i, k, s, hk, h1, hs⟩
    replace hk : i = @Nat.cast Int instNatCastInt k := hk
    subst hk
    unfold sTrue17 sLightMs sPriceM sMayM sTotalM
    generalize hg0 : (List.length : List UInt8 → Nat) = g0
    generalize hL : lft Try.prog _ = L
    try dsimp only
    try unfold leafG
    try unfold msgCl
    try unfold msgG
    try unfold msgC
    generalize ho0 : @lK = zo0, ho1 : @lV = zo1, ho2 : @lI = zo2, ho3 : @lP = zo3, ho4 : @lN = zo4, ho5 : @pG = zo5, ho6 : @rN = zo6, ho7 : @msgPre = zo7, ho8 : @lenL = zo8, ho9 : @mayM = zo9, ho10 : @msgOf = zo10, ho11 : @gM = zo11, ho12 : @msgsL = zo12, ho13 : @msgsPre = zo13, ho14 : @msgsPre0 = zo14, ho15 : @lightMs = zo15, ho16 : @priceM = zo16, ho17 : @totalM = zo17
    generalize hA : Arith.std = A
    cbv
    subst hA hg0 hL ho0 ho1 ho2 ho3 ho4 ho5 ho6 ho7 ho8 ho9 ho10 ho11 ho12 ho13 ho14 ho15 ho16 ho17
    refine Ife.mk (fun hlt => ?_) (fun hlt => ?_)
    · replace hlt : (k : Int) < @Nat.cast Int instNatCastInt n := of_decide_eq_true (p := (k : Int) < (n : Int)) hlt
      have hkL : k < L.length := by omega
      have pm := msgPre_n (m := gM L k) (a := .row 0) (b := .row 1) (fr := false) (fr' := false) (ho k) rfl rfl
      have ge := msgOf_g (a := .row 0) (b := .row 1) (fr := false) (fr' := false) (ho k).raw
      have ix : 0 ≤ (k : Int) ∧ (k : Int) < (n : Int) := by omega
      have ix2 : k < n := by omega
      generalize hE : priceM _ = E
      replace hE : priceM (gM L k) = E := (congrArg priceM ge).symm.trans hE
      refine Need.mk ix fun _ => Need.mk ix2 fun _ => Need.mk pm fun _ => Need.mk ix fun _ => Need.mk ix2 fun _ => Need.mk pm fun _ => ?_
      have r1 := total_rng (L := L.take k) fun m hm => hok m (List.mem_of_mem_take hm)
      have r2 := price_rng (ho k)
      have r3 : (L.take k).length = k := by rw [List.length_take]; omega
      have hd : decide (0 < E) = mayM (gM L k) := by
        cases hm : mayM (gM L k)
        · rw [price_no hm] at hE
          rw [← hE]; decide
        · have := price_may hm (ho k)
          exact decide_eq_true (by omega)
      refine Ife.no (by show (!decide (E = E)) = false; simp) ?_
      refine Need.mk ix fun _ => Need.mk ix2 fun _ => Need.mk pm fun _ => ?_
      generalize hB : mayM _ = B
      replace hB : mayM (gM L k) = B := (congrArg mayM ge).symm.trans hB
      rw [hB] at hd
      refine Ife.no (by show (!(decide (0 < E) == B)) = false; rw [hd]; simp) ?_
      refine Ife.mk (fun h0 => ?_) (fun h0 => ?_)
      · replace h0 : decide (0 < E) = true := h0
        have hE2 : ¬ E < 1003 := by
          have := price_may (hB.trans (hd.symm.trans h0)) (ho k)
          omega
        refine Ife.no (decide_eq_false hE2) ?_
        refine Need.mk (by show fitStd .i64 (s + E); unfold fitStd; omega) fun _ => ?_
        refine Need.mk (by show fitStd .i64 ((k : Int) + 1); unfold fitStd; omega) fun _ => ?_
        refine ⟨⟨(k : Int) + 1, k + 1, s + E, by omega, by omega, by rw [total_take hkL, ← hs, hE]⟩, [0], (by show L.length - (k + 1) < L.length - k; omega), ?_⟩
        refine ⟨rfl, by show List.Nodup []; exact List.nodup_nil, ?_, ?_⟩ <;> repeat' (first | exact trivial | exact rfl | apply And.intro | exact (fun _ _ _ _ => Cell.le_refl _) | (intro i hi; rfl) | (intro i hi; exact absurd hi (Nat.not_lt_zero _)))
      · refine Need.mk (by show fitStd .i64 (s + E); unfold fitStd; omega) fun _ => ?_
        refine Need.mk (by show fitStd .i64 ((k : Int) + 1); unfold fitStd; omega) fun _ => ?_
        refine ⟨⟨(k : Int) + 1, k + 1, s + E, by omega, by omega, by rw [total_take hkL, ← hs, hE]⟩, [0], (by show L.length - (k + 1) < L.length - k; omega), ?_⟩
        refine ⟨rfl, by show List.Nodup []; exact List.nodup_nil, ?_, ?_⟩ <;> repeat' (first | exact trivial | exact rfl | apply And.intro | exact (fun _ _ _ _ => Cell.le_refl _) | (intro i hi; rfl) | (intro i hi; exact absurd hi (Nat.not_lt_zero _)))
    · replace hlt : ¬ (k : Int) < @Nat.cast Int instNatCastInt n := of_decide_eq_false (p := (k : Int) < (n : Int)) hlt
      refine Need.mk (msgsPre_n (fr := false) hL hok (by omega)) fun _ => ?_
      rw [k0]
      rw [show totalM L = s by rw [hs, List.take_of_length_le (by omega)]]
      exact ⟨[0], ⟨rfl, by repeat' (first | exact trivial | exact (decide_eq_true rfl) | exact (congrArg CV.bool (decide_eq_true rfl)) | exact (congrArg (fun b => SV.c (CV.bool b)) (decide_eq_true rfl)) | exact rfl | apply And.intro | exact (fun _ _ _ _ => Cell.le_refl _) | (intro i hi; rfl) | (intro i hi; exact absurd hi (Nat.not_lt_zero _))), by decide, rfl, by repeat' (first | exact trivial | exact (decide_eq_true rfl) | exact (congrArg CV.bool (decide_eq_true rfl)) | exact (congrArg (fun b => SV.c (CV.bool b)) (decide_eq_true rfl)) | exact rfl | apply And.intro | exact (fun _ _ _ _ => Cell.le_refl _) | (intro i hi; rfl) | (intro i hi; exact absurd hi (Nat.not_lt_zero _)))⟩⟩

end Go.Proofs.Ytcgoaicifjndpaa.Vx
namespace Go.Proofs.Ytcgoaicifjndpaa
open Go.RowKit
set_option linter.unusedVariables false
theorem gasTellsWalk (w : World) (v : Value) (L : List Vx.PMsg) (hv : (Vx.Cell.ns false 74 50 L.length (Vx.msgG false L)).shows w (fun _ b => b < w.heap.size) v) (hn : L.length ≤ maxLen) (hr : ∀ m ∈ L, Vx.MsgRaw m) :
    Calls Try.prog 6 #[v] w fun e w' => e = .returned (.bool true) ∧ Below w.heap.size w w' := by
  obtain ⟨q, hq, r1⟩ := Vx.Rel.addMsgs (Vx.Rel.refl w) hv
  have d : Vx.CV.den [q] (.row 0) = some v := Vx.msgs_den hv hq
  refine Calls.mono (Vx.gasTellsP.run [.c (.row 0)] [.data false 74 50 L.length (Vx.msgG false L)] _ _ _ rfl (Vx.msgsPre0_law hr hn) [q] w _ r1 ⟨_, _, rfl, d, rfl⟩) fun e W' he => ?_
  obtain ⟨u, ρ', rfl, hu, hr⟩ := he
  obtain rfl : .bool true = u := Option.some.inj hu
  exact ⟨rfl, Vx.Rel.toBelow hr⟩
end Go.Proofs.Ytcgoaicifjndpaa
