/- The document's own blocks, by the walker. -/
import Derived.Test.YtpapfokdhmpmjaaVRef
import Derived.Test.YtpapfokdhmpmjaaVBlk4
namespace Go.Proofs.Ytpapfokdhmpmjaa
open Go.RowKit
set_option linter.unusedVariables false
set_option linter.unusedSimpArgs false

namespace Vx
set_option maxRecDepth 100000 in
set_option maxHeartbeats 1000000 in
theorem refMayBlP : Rds Try.prog 27 13 sMayBl := by
  have hC : CtsOk Try.prog [(61, appPure sName), (23, appPure sMayEv)] := CtsOk.cons (Pure.ct refNameP) <| CtsOk.cons (Pure.ct refMayEvP) <| CtsOk.nil _
  refine Rds.of (E := tb) [] 0 [] tb_ok hC (by kernel_rfl) Try.func27 rfl rfl rfl (by kernel_rfl) (by kernel_rfl) 27 1 ?_ ?_
  · intro args vs pre r h
    unfold sMayBl at h
    split at h
    · cases h; exact ⟨rfl, rfl⟩
    · cases h
  · intro args vs pre r h hp
    unfold sMayBl at h
    split at h
    rotate_left
    · cases h
    rename_i c ht tm n get
    cases h
    refine ⟨_, hp.evs.same, ?_⟩
    unfold sName sMayEv
    generalize hg0 : evAt = g0
    generalize hg1 : mayEv = g1
    generalize hg2 : nameOk = g2
    generalize hg3 : Ev.fits = g3
    generalize hg4 : mayBl = g4
    generalize hg5 : evsOf = g5
    generalize hg6 : (List.length : List UInt8 → Nat) = g6
    generalize hL : lft Try.prog _ = L
    generalize hA : Arith.std = A
    cbv
    subst hA hg0 hg1 hg2 hg3 hg4 hg5 hg6 hL
    have hB : ∀ (a b d e f : Bool), (a && b && d && e && f) = false ↔ (a = false ∨ b = false ∨ d = false ∨ e = false ∨ f = false) := by decide
    have hlen : (evsOf n get).length = n := by simp [evsOf]
    refine Need.mk hp.c fun _ => ?_
    refine Ife.mk (fun h => ?_) (fun h1 => ?_)
    · have h : nameOk c = false := by simpa [Arith.std] using h
      simp [mayBl, h]
    refine Ife.mk (fun h => ?_) (fun h2 => ?_)
    · have h : ht < 1 := of_decide_eq_true (p := ht < 1) h
      exact (hB _ _ _ _ _).2 (.inr (.inl (decide_eq_false (by simp only; omega))))
    refine Ife.mk (fun h => ?_) (fun h3 => ?_)
    · have h : 1099511627776 < ht := of_decide_eq_true (p := 1099511627776 < ht) h
      exact (hB _ _ _ _ _).2 (.inr (.inl (decide_eq_false (by simp only; omega))))
    refine Ife.mk (fun h => ?_) (fun h4 => ?_)
    · have h : tm < 0 := of_decide_eq_true (p := tm < 0) h
      exact (hB _ _ _ _ _).2 (.inr (.inr (.inl (decide_eq_false (by simp only; omega)))))
    refine Ife.mk (fun h => ?_) (fun h5 => ?_)
    · have h : 1099511627776 < tm := of_decide_eq_true (p := 1099511627776 < tm) h
      exact (hB _ _ _ _ _).2 (.inr (.inr (.inl (decide_eq_false (by simp only; omega)))))
    refine Ife.mk (fun h => ?_) (fun h6 => ?_)
    · have h : (1073741824 : Int) < n := of_decide_eq_true (p := (1073741824 : Int) < n) h
      exact (hB _ _ _ _ _).2 (.inr (.inr (.inr (.inr (decide_eq_false (by dsimp only; omega))))))
    have h1 : nameOk c = true := by simpa [Arith.std] using h1
    have h2 : ¬ ht < 1 := of_decide_eq_false (p := ht < 1) h2
    have h3 : ¬ 1099511627776 < ht := of_decide_eq_false (p := 1099511627776 < ht) h3
    have h4 : ¬ tm < 0 := of_decide_eq_false (p := tm < 0) h4
    have h5 : ¬ 1099511627776 < tm := of_decide_eq_false (p := 1099511627776 < tm) h5
    have h6 : ¬ (1073741824 : Int) < n := of_decide_eq_false (p := (1073741824 : Int) < n) h6
    have hn := hp.n
    show Runs Try.prog 1 (.loop _) _ _
    refine loop_rule (N := env (lft Try.prog 1) 0 .std tb [(61, appPure sName), (23, appPure sMayEv)] []) rfl tb_ok hC (fun c st K _ h => h) (by kernel_rfl) [] (X := LM get n)
      (S := fun x => ⟨[.any, .c (.ptr 1 0), .any, .c (.int .i64 x.i)] ++ List.replicate 44 .any, [.elems 27 13 n (fun i => evC (evAt (get i))), .cells 40 [.str c, .int .i64 ht, .int .i64 tm, .row 0]]⟩) (μ := fun x => n - x.i.toNat) ⟨0, by omega, by omega, fun j hj => by omega⟩ (by kernel_rfl) (fun x => show 1 ≤ 2 from by decide) ?_ ?_
    · refine And.intro ?_ ?_ <;> repeat' (first | exact trivial | exact rfl | apply And.intro)
    rintro ⟨i, hi0, hin, hall⟩
    unfold sName sMayEv
    generalize hg0 : evAt = g0
    generalize hg1 : mayEv = g1
    generalize hg2 : nameOk = g2
    generalize hg3 : Ev.fits = g3
    generalize hg4 : mayBl = g4
    generalize hg5 : evsOf = g5
    generalize hg6 : (List.length : List UInt8 → Nat) = g6
    generalize hL : lft Try.prog _ = L
    generalize hA : Arith.std = A
    cbv
    subst hA hg0 hg1 hg2 hg3 hg4 hg5 hg6 hL
    replace hin : i ≤ (n : Int) := hin
    replace hall : ∀ j : Nat, (j : Int) < i → mayEv (evAt (get j)) = true := hall
    refine Ife.mk (fun h => ?_) (fun h => ?_)
    · have hlt : i < (n : Int) := of_decide_eq_true (p := i < (n : Int)) h
      have hk : i.toNat < n := by omega
      have hf := hp.evs.fits i.toNat hk
      refine Need.mk (show 0 ≤ i ∧ i < (n : Int) from ⟨hi0, hlt⟩) fun _ => ?_
      refine Need.mk (show i.toNat < n from hk) fun _ => ?_
      refine Need.mk hf fun _ => ?_
      refine Ife.mk (fun h6 => ?_) (fun h6 => ?_)
      · have h6 : mayEv (evAt (get i.toNat)) = false := by simpa [Arith.std] using h6
        have : (evsOf n get).all mayEv = false := by
          cases hq : (evsOf n get).all mayEv
          · rfl
          · rw [all_evs.1 hq i.toNat hk] at h6
            cases h6
        simp [mayBl, this]
      · have h6 : mayEv (evAt (get i.toNat)) = true := by simpa [Arith.std] using h6
        refine Need.mk (show -9223372036854775808 ≤ i + 1 ∧ i + 1 ≤ 9223372036854775807 by omega) fun _ => ?_
        refine ⟨⟨i + 1, by omega, by omega, fun j hj => ?_⟩, by show n - (i + 1).toNat < n - i.toNat; omega, ?_⟩
        · by_cases hji : (j : Int) < i
          · exact hall j hji
          · obtain rfl : j = i.toNat := by omega
            exact h6
        · refine And.intro ?_ ?_ <;> repeat' (first | exact trivial | exact rfl | apply And.intro)
    · have hnlt : ¬ i < (n : Int) := of_decide_eq_false (p := i < (n : Int)) h
      have ha : (evsOf n get).all mayEv = true := all_evs.2 fun j hj => hall j (by omega)
      have hb1 : between ht 1 1099511627776 = true := decide_eq_true ⟨by omega, by omega⟩
      have hb2 : between tm 0 1099511627776 = true := decide_eq_true ⟨by omega, by omega⟩
      show _ = true
      unfold mayBl
      simp only [h1, hb1, hb2, ha, hlen, Bool.true_and]
      exact decide_eq_true (by omega)

set_option maxRecDepth 100000 in
set_option maxHeartbeats 1000000 in
theorem refSameBlP : Rds Try.prog 28 13 sSameBl := by
  have hC : CtsOk Try.prog [] := CtsOk.nil _
  refine Rds.of (E := tb) [] 0 [(6, [(0, true), (1, true), (2, true), (3, true), (4, true), (5, true), (6, true), (7, true), (8, true), (9, true), (10, true)])] tb_ok hC (by kernel_rfl) Try.func28 rfl rfl rfl (by kernel_rfl) (by kernel_rfl) 27 2 ?_ ?_
  · intro args vs pre r h
    unfold sSameBl at h
    split at h
    · cases h; exact ⟨rfl, rfl⟩
    · cases h
  · intro args vs pre r h hp
    unfold sSameBl at h
    split at h
    rotate_left
    · cases h
    rename_i c ht tm c' ht' tm' n g m k
    cases h
    obtain ⟨hp1, hp2, hp3, hp4⟩ := hp
    refine ⟨[(n, fun i => evC (evAt (g i))), (m, fun i => evC (evAt (k i)))], SameV.two (fun i hi => (hp1.same.2 0 _ _ rfl rfl).2 i hi) (fun i hi => (hp2.same.2 0 _ _ rfl rfl).2 i hi), ?_⟩
    have hc : decide (c = c' ∧ ht = ht' ∧ tm = tm' ∧ n = m ∧ ∀ i, i < n → evAt (g i) = evAt (k i)) = decide ((⟨c, ht, tm, evsOf n g⟩ : Bl) = ⟨c', ht', tm', evsOf m k⟩) := by
      rw [Bool.eq_iff_iff]
      simp only [decide_eq_true_eq, Bl.mk.injEq, evs_eq]
    generalize hD : decide ((⟨c, ht, tm, evsOf n g⟩ : Bl) = ⟨c', ht', tm', evsOf m k⟩) = D at *
    clear hD
    generalize hx : (fun i => evAt (g i)) = xs
    have hx : ∀ i, evAt (g i) = xs i := fun i => by rw [← hx]
    generalize hy : (fun i => evAt (k i)) = ys
    have hy : ∀ i, evAt (k i) = ys i := fun i => by rw [← hy]
    simp only [hx, hy] at hc ⊢
    generalize hg0 : (List.length : List UInt8 → Nat) = g0
    generalize hL : lft Try.prog _ = L
    generalize hA : Arith.std = A
    cbv
    subst hA hg0 hL
    refine Ife.mk (fun h => ?_) (fun h => ?_)
    · have h : ¬ c = c' := by simpa [Arith.std] using h
      show D = false
      rw [← hc]
      simp [h]
    have q0 : c = c' := by simpa [Arith.std] using h
    refine Ife.mk (fun h => ?_) (fun h => ?_)
    · have h : ¬ ht = ht' := by simpa [Arith.std] using h
      show D = false
      rw [← hc]
      simp [h]
    have q1 : ht = ht' := by simpa [Arith.std] using h
    refine Ife.mk (fun h => ?_) (fun h => ?_)
    · have h : ¬ tm = tm' := by simpa [Arith.std] using h
      show D = false
      rw [← hc]
      simp [h]
    have q2 : tm = tm' := by simpa [Arith.std] using h
    refine Ife.mk (fun h => ?_) (fun h => ?_)
    · have h : n ≠ m := by
        have : ¬ (n : Int) = m := by simpa [Arith.std] using h
        omega
      show D = false
      rw [← hc]
      simp [h]
    have hnm : n = m := by
      have : (n : Int) = m := by simpa [Arith.std] using h
      omega
    have hE : (∀ i, i < n → xs i = ys i) ↔ D = true := by
      rw [← hc]
      simp [q0, q1, q2, hnm]
    clear hc
    show Runs Try.prog 2 (.loop _) _ _
    refine loop_rule (N := env (lft Try.prog 2) 0 .std tb [] [(6, [(0, true), (1, true), (2, true), (3, true), (4, true), (5, true), (6, true), (7, true), (8, true), (9, true), (10, true)])]) rfl tb_ok hC (fun c st K _ h => h) (by kernel_rfl) [] (X := LQ xs ys n)
      (S := fun x => ⟨[.any, .any, .c (.ptr 2 0), .c (.ptr 3 0), .any, .c (.int .i64 x.i)] ++ List.replicate 46 .any, [.elems 27 13 n (fun i => evC (xs i)), .elems 27 13 m (fun i => evC (ys i)), .cells 40 [.str c, .int .i64 ht, .int .i64 tm, .row 0], .cells 40 [.str c', .int .i64 ht', .int .i64 tm', .row 1]]⟩) (μ := fun x => n - x.i.toNat) ⟨0, by omega, by omega, fun j hj => by omega⟩ (by kernel_rfl) (fun x => show 2 ≤ 4 by decide) ?_ ?_
    · refine And.intro ?_ ?_ <;> repeat' (first | exact trivial | exact rfl | apply And.intro)
    rintro ⟨i, hi0, hin, hall⟩
    generalize hg0 : (List.length : List UInt8 → Nat) = g0
    generalize hL : lft Try.prog _ = L
    generalize hA : Arith.std = A
    cbv
    subst hA hg0 hL
    replace hin : i ≤ (n : Int) := hin
    replace hall : ∀ j : Nat, (j : Int) < i → xs j = ys j := hall
    refine Ife.mk (fun h => ?_) (fun h => ?_)
    · have hlt : i < (n : Int) := of_decide_eq_true (p := i < (n : Int)) h
      have hk : i.toNat < n := by omega
      refine Need.mk (show 0 ≤ i ∧ i < (n : Int) from ⟨hi0, hlt⟩) fun _ => ?_
      refine Need.mk (show i.toNat < n from hk) fun _ => ?_
      refine Need.mk (show 0 ≤ i ∧ i < (m : Int) from ⟨hi0, by omega⟩) fun _ => ?_
      refine Need.mk (show i.toNat < m by omega) fun _ => ?_
      refine Ife.mk (fun h => ?_) (fun h => ?_)
      · have h : (!decide (xs i.toNat = ys i.toNat)) = true := by rw [← ev_chain]; exact h
        have h : xs i.toNat ≠ ys i.toNat := by simpa using h
        show D = false
        cases D
        · rfl
        · exact absurd (hE.2 rfl _ hk) h
      · have h : (!decide (xs i.toNat = ys i.toNat)) = false := by rw [← ev_chain]; exact h
        have h : xs i.toNat = ys i.toNat := by simpa using h
        refine Need.mk (show -9223372036854775808 ≤ i + 1 ∧ i + 1 ≤ 9223372036854775807 by omega) fun _ => ?_
        refine ⟨⟨i + 1, by omega, by omega, fun j hj => ?_⟩, by show n - (i + 1).toNat < n - i.toNat; omega, ?_⟩
        · by_cases hji : (j : Int) < i
          · exact hall j hji
          · obtain rfl : j = i.toNat := by omega
            exact h
        · refine And.intro ?_ ?_ <;> repeat' (first | exact trivial | exact rfl | apply And.intro)
    · have hnlt : ¬ i < (n : Int) := of_decide_eq_false (p := i < (n : Int)) h
      show D = true
      exact hE.1 fun j hj => hall j (by omega)

structure LB (b : Bl) where
  i : Int
  l : List UInt8
  h0 : 0 ≤ i
  h1 : i ≤ (b.evs.length : Int)
  e : l = textB b.chain ++ Leb.put b.height ++ Leb.put b.time ++ Leb.put b.evs.length ++ evsB (b.evs.take i.toNat)
theorem evsB_len {xs : List Ev} (h : xs.all mayEv = true) : (evsB xs).length ≤ 1008 * xs.length := by
  induction xs with
  | nil => simp [evsB]
  | cons x xs ih =>
    simp only [List.all_cons, Bool.and_eq_true] at h
    have h1 := ih h.2
    have h2 := evB_len h.1
    have h3 := textB_len (evB x)
    have e : evsB (x :: xs) = textB (evB x) ++ evsB xs := by simp [evsB]
    rw [e, List.length_append, List.length_cons]
    omega
theorem evsB_snoc (xs : List Ev) (x : Ev) : evsB (xs ++ [x]) = evsB xs ++ textB (evB x) := by simp [evsB]
set_option maxRecDepth 100000 in
set_option maxHeartbeats 1000000 in
theorem refEncBlP : Rds Try.prog 24 13 sEncBl := by
  have hC : CtsOk Try.prog [(27, appRds 13 sMayBl), (53, appPure sPutText), (54, appPure sLebPut), (55, appPure sEnc)] := CtsOk.cons (Rds.ct refMayBlP) <| CtsOk.cons (Pure.ct refPutTextP) <| CtsOk.cons (Pure.ct refPutP) <| CtsOk.cons (Pure.ct refEncP) <| CtsOk.nil _
  refine Rds.of (E := tb) [] 0 [(3, [(0, true), (1, true), (3, true), (4, true), (7, true), (8, true), (11, true), (12, true), (13, true), (2, false), (5, false), (6, true), (9, false), (10, true), (14, false), (15, true), (16, true)])] tb_ok hC (by kernel_rfl) Try.func24 rfl rfl rfl (by kernel_rfl) (by kernel_rfl) 27 1 ?_ ?_
  · intro args vs pre r h
    unfold sEncBl at h
    split at h
    · cases h; exact ⟨rfl, rfl⟩
    · cases h
  · intro args vs pre r h hp
    unfold sEncBl at h
    split at h
    rotate_left
    · cases h
    rename_i c ht tm n get
    cases h
    refine ⟨_, hp.evs.same, ?_⟩
    unfold sMayBl sPutText sLebPut sEnc
    generalize hg0 : textB = g0
    generalize hg1 : Leb.put = g1
    generalize hg2 : encEv = g2
    generalize hg3 : Ev.fits = g3
    generalize hg4 : encBl = g4
    generalize hg5 : BlAt = g5
    generalize hg6 : mayBl = g6
    generalize hg7 : evsOf = g7
    generalize hg8 : evAt = g8
    generalize hg9 : isI64 = g9
    generalize hg10 : (List.length : List UInt8 → Nat) = g10
    generalize hL : lft Try.prog _ = L
    generalize hA : Arith.std = A
    cbv
    subst hA hg0 hg1 hg2 hg3 hg4 hg5 hg6 hg7 hg8 hg9 hg10 hL
    refine Need.mk hp.same fun _ => ?_
    refine Ife.mk (fun h => ?_) (fun hm => ?_)
    · have h : mayBl ⟨c, ht, tm, evsOf n get⟩ = false := by simpa [Arith.std, evsOf_same] using h
      simp [encBl, h]
    have hm : mayBl ⟨c, ht, tm, evsOf n get⟩ = true := by simpa [Arith.std, evsOf_same] using hm
    obtain ⟨m1, m2, m3, m4, m5⟩ := mayBl_facts hm
    dsimp only at m1 m2 m3 m4 m5
    rw [evsOf_len] at m5
    have hc := name_le m1
    have e1 := textB_len c
    have q1 := Leb.put_len_le ht; have q2 := Leb.put_len_le tm; have q3 := Leb.put_len_le (n : Int)
    refine Need.mk (show c.length ≤ 9223372036854770000 by omega) fun _ => ?_
    refine Need.mk (show isI64 ht by unfold isI64; omega) fun _ => ?_
    refine Need.mk (show ((textB c).length : Int) + (Leb.put ht).length ≤ 9223372036854775807 by omega) fun _ => ?_
    refine Need.mk (show isI64 tm by unfold isI64; omega) fun _ => ?_
    refine Need.mk (show ((textB c ++ Leb.put ht).length : Int) + (Leb.put tm).length ≤ 9223372036854775807 by simp only [List.length_append]; omega) fun _ => ?_
    refine Need.mk (show isI64 (n : Int) by unfold isI64; omega) fun _ => ?_
    refine Need.mk (show ((textB c ++ Leb.put ht ++ Leb.put tm).length : Int) + (Leb.put n).length ≤ 9223372036854775807 by simp only [List.length_append]; omega) fun _ => ?_
    have hlen := evsOf_len n get
    show Runs Try.prog 1 (.loop _) _ _
    generalize hB : (⟨c, ht, tm, evsOf n get⟩ : Bl) = B
    have hBe : B.evs = evsOf n get := by rw [← hB]
    have hBm : mayBl B = true := by rw [← hB]; exact hm
    refine loop_rule (N := env (lft Try.prog 1) 0 .std tb [(27, appRds 13 sMayBl), (53, appPure sPutText), (54, appPure sLebPut), (55, appPure sEnc)] [(3, [(0, true), (1, true), (3, true), (4, true), (7, true), (8, true), (11, true), (12, true), (13, true), (2, false), (5, false), (6, true), (9, false), (10, true), (14, false), (15, true), (16, true)])]) rfl tb_ok hC (fun c st K _ h => h) (by kernel_rfl) [] (X := LB B)
      (S := fun x => ⟨[.any, .c (.ptr 1 0), .any, .any, .c (.str x.l), .c (.int .i64 x.i)] ++ List.replicate 42 .any, [.elems 27 13 n (fun i => evC (evAt (get i))), .cells 40 [.str c, .int .i64 ht, .int .i64 tm, .row 0]]⟩) (μ := fun x => n - x.i.toNat) ⟨0, textB c ++ Leb.put ht ++ Leb.put tm ++ Leb.put n, by omega, by omega, by rw [← hB]; dsimp only; rw [hlen]; simp [evsB]⟩ (by kernel_rfl) (fun x => show 1 ≤ 2 by decide) ?_ ?_
    · refine And.intro ?_ ?_ <;> repeat' (first | exact trivial | exact rfl | apply And.intro)
    rintro ⟨i, l, hi0, hin, he⟩
    unfold sMayBl sPutText sLebPut sEnc
    generalize hg0 : textB = g0
    generalize hg1 : Leb.put = g1
    generalize hg2 : encEv = g2
    generalize hg3 : Ev.fits = g3
    generalize hg4 : encBl = g4
    generalize hg5 : BlAt = g5
    generalize hg6 : mayBl = g6
    generalize hg7 : evsOf = g7
    generalize hg8 : evAt = g8
    generalize hg9 : isI64 = g9
    generalize hg10 : (List.length : List UInt8 → Nat) = g10
    generalize hL : lft Try.prog _ = L
    generalize hA : Arith.std = A
    cbv
    subst hA hg0 hg1 hg2 hg3 hg4 hg5 hg6 hg7 hg8 hg9 hg10 hL
    replace hin : i ≤ (B.evs.length : Int) := hin
    replace he : l = textB B.chain ++ Leb.put B.height ++ Leb.put B.time ++ Leb.put (B.evs.length : Int) ++ evsB (B.evs.take i.toNat) := he
    have hBl : B.evs.length = n := by rw [hBe, hlen]
    have hall : B.evs.all mayEv = true := (mayBl_facts hBm).2.2.2.1
    have hll : l.length ≤ 1000 + 1008 * i.toNat := by
      have h1 := evsB_len (xs := B.evs.take i.toNat) (List.all_eq_true.2 fun x hx => List.all_eq_true.1 hall x (List.mem_of_mem_take hx))
      rw [List.length_take] at h1
      have h2 := textB_len B.chain
      have h3 : B.chain.length ≤ 12 := name_le (mayBl_facts hBm).1
      have h4 := Leb.put_len_le B.height; have h5 := Leb.put_len_le B.time; have h6 := Leb.put_len_le (B.evs.length : Int)
      rw [he]
      simp only [List.length_append]
      omega
    refine Ife.mk (fun h => ?_) (fun h => ?_)
    · have hlt : i < (n : Int) := of_decide_eq_true (p := i < (n : Int)) h
      have hk : i.toNat < n := by omega
      have hf := hp.evs.fits i.toNat hk
      have hmx : mayEv (evAt (get i.toNat)) = true := by rw [hBe] at hall; exact all_evs.1 hall i.toNat hk
      have hel : (encEv (evAt (get i.toNat))).1 = evB (evAt (get i.toNat)) := by rw [enc_may hmx]
      have hel2 := evB_len hmx
      have hel3 := textB_len (evB (evAt (get i.toNat)))
      refine Need.mk (show 0 ≤ i ∧ i < (n : Int) from ⟨hi0, hlt⟩) fun _ => ?_
      refine Need.mk (show i.toNat < n from hk) fun _ => ?_
      refine Need.mk hf fun _ => ?_
      refine Need.mk (show (encEv (evAt (get i.toNat))).1.length ≤ 9223372036854770000 by rw [hel]; omega) fun _ => ?_
      refine Need.mk (show (l.length : Int) + (textB (encEv (evAt (get i.toNat))).1).length ≤ 9223372036854775807 by rw [hel]; omega) fun _ => ?_
      refine Need.mk (show -9223372036854775808 ≤ i + 1 ∧ i + 1 ≤ 9223372036854775807 by omega) fun _ => ?_
      refine ⟨⟨i + 1, l ++ textB (encEv (evAt (get i.toNat))).1, by omega, by omega, ?_⟩, by show n - (i + 1).toNat < n - i.toNat; omega, ?_⟩
      · have e1 : (i + 1).toNat = i.toNat + 1 := by omega
        have e2 : B.evs[i.toNat]? = some (evAt (get i.toNat)) := by rw [hBe]; exact evsOf_get n get i.toNat hk
        rw [e1, List.take_add_one, e2, hel, he]
        simp only [Option.toList_some, evsB_snoc, List.append_assoc]
      · refine And.intro ?_ ?_ <;> repeat' (first | exact trivial | exact rfl | apply And.intro)
    · have hnlt : ¬ i < (n : Int) := of_decide_eq_false (p := i < (n : Int)) h
      have ei : i.toNat = B.evs.length := by omega
      rw [ei, List.take_length] at he
      rw [enc_mayBl hBm]
      refine ⟨?_, rfl, trivial⟩
      rw [he]
      simp [blB]

set_option maxRecDepth 100000 in
set_option maxHeartbeats 400000 in
theorem refPeekP : Pure Try.prog 26 sPeek := by
  refine Pure.of (E := tb) (C := [(56, appMeth 79 sRdText), (57, appMeth 79 sRdNum), (61, appPure sName)]) [] 0 [(5, [(0, true), (1, true), (2, true), (3, true), (4, true), (5, true), (6, true)])] tb_ok (CtsOk.cons (Meth.ct refTextP) <| CtsOk.cons (Meth.ct refNumP) <| CtsOk.cons (Pure.ct refNameP) <| CtsOk.nil _) (by kernel_rfl) Try.func26 rfl rfl rfl (by kernel_rfl) (by kernel_rfl) ?_ ?_
  · intro args pre r h
    unfold sPeek at h
    split at h
    · cases h; first | rfl | exact ⟨rfl, rfl⟩
    · cases h
  · intro args pre r h hp
    unfold sPeek at h
    split at h
    rotate_left
    · cases h
    rename_i l
    cases h
    unfold sRdText sRdNum sName
    generalize hg0 : textS = g0
    generalize hg1 : numS = g1
    generalize hg2 : okRd = g2
    generalize hg3 : peekBl = g3
    generalize hg4 : nameOk = g4
    generalize hg5 : (List.length : List UInt8 → Nat) = g5
    generalize hA : Arith.std = A
    cbv
    subst hA hg0 hg1 hg2 hg3 hg4 hg5
    have h0 : okRd l 0 0 := ok_start hp
    have hl := text_len l 0 0 12
    refine Need.mk h0 fun _ => ?_
    refine Need.mk (ok_text h0) fun _ => ?_
    refine Ife.mk (fun h => ?_) (fun h => ?_)
    · have h : (numS l (textS l 0 0 12).2.1 (textS l 0 0 12).2.2 1 1099511627776).2.2 ≠ 0 := by simpa [Arith.std] using h
      simp [peekBl, rHead, rText, rNum, h]
    · have h : (numS l (textS l 0 0 12).2.1 (textS l 0 0 12).2.2 1 1099511627776).2.2 = 0 := by simpa [Arith.std] using h
      refine Need.mk (Nat.le_trans hl (Nat.le_trans hp (by decide))) fun _ => ?_
      refine Ife.mk (fun h2 => ?_) (fun h2 => ?_)
      · have h2 : nameOk (textS l 0 0 12).1 = false := by simpa [Arith.std] using h2
        simp [peekBl, rHead, rText, rNum, h, h2]
      · have h2 : nameOk (textS l 0 0 12).1 = true := by simpa [Arith.std] using h2
        simp [peekBl, rHead, rText, rNum, h, h2]

set_option maxRecDepth 100000 in
set_option maxHeartbeats 2000000 in
theorem refDecBlP : Born Try.prog 25 13 sDecBl := by
  have hC : CtsOk Try.prog [(56, appMeth 79 sRdText), (57, appMeth 79 sRdNum), (58, appMeth 79 sCount), (60, appMeth 79 sRdEnd), (59, appPure sDec), (27, appRds 13 sMayBl)] := CtsOk.cons (Meth.ct refTextP) <| CtsOk.cons (Meth.ct refNumP) <| CtsOk.cons (Meth.ct refCountP) <| CtsOk.cons (Meth.ct refEndP) <| CtsOk.cons (Pure.ct refDecP) <| CtsOk.cons (Rds.ct refMayBlP) <| CtsOk.nil _
  refine Born.of (E := tb) [] 0 [] tb_ok hC (by kernel_rfl) Try.func25 rfl rfl rfl (by kernel_rfl) (by kernel_rfl) 27 0 27 13 ?_ ?_
  · intro args vs pre r es h
    unfold sDecBl at h
    split at h
    · cases h; exact ⟨rfl, rfl⟩
    · cases h
  · intro args vs pre r es h hp
    unfold sDecBl at h
    split at h
    rotate_left
    · cases h
    rename_i l
    cases h
    refine ⟨[], SameV.refl _, ?_⟩
    unfold sRdText sRdNum sCount sRdEnd sDec sMayBl
    generalize hg0 : textS = g0
    generalize hg1 : numS = g1
    generalize hg2 : countS = g2
    generalize hg3 : okRd = g3
    generalize hg4 : endS = g4
    generalize hg5 : decEv = g5
    generalize hg6 : decBl = g6
    generalize hg7 : mayBl = g7
    generalize hg8 : BlAt = g8
    generalize hg9 : evsOf = g9
    generalize hg10 : evGet = g10
    generalize hg11 : (pushG) = g11
    generalize hg12 : (List.length : List UInt8 → Nat) = g12
    generalize hg13 : (List.length : List Ev → Nat) = g13
    generalize hL : lft Try.prog _ = L
    generalize hA : Arith.std = A
    cbv
    subst hA hg0 hg1 hg2 hg3 hg4 hg5 hg6 hg7 hg8 hg9 hg10 hg11 hg12 hg13 hL
    have h0 : okRd l 0 0 := ok_start hp
    refine Need.mk h0 fun _ => ?_
    have h1 := ok_text (hi := 12) h0
    refine Need.mk h1 fun _ => ?_
    have h2 := ok_num (lo := 1) (hi := 1099511627776) h1
    refine Need.mk h2 fun _ => ?_
    have h3 := ok_num (lo := 0) (hi := 1099511627776) h2
    refine Need.mk h3 fun _ => ?_
    have h4 := ok_count (hi := 1073741824) h3
    have hcl := text_len l 0 0 12
    have hR := rBl_eq l
    generalize textS l 0 0 12 = t1 at *
    generalize numS l t1.2.1 t1.2.2 1 1099511627776 = t2 at *
    generalize numS l t2.2.1 t2.2.2 0 1099511627776 = t3 at *
    have hrg := count_range l t3.2.1 t3.2.2
    have hbd := @count_bad l t3.2.1 t3.2.2
    generalize countS l t3.2.1 t3.2.2 1073741824 = t4 at *
    obtain ⟨N, A0, B0⟩ := t4
    dsimp only at *
    show Runs Try.prog 0 (.loop _) _ _
    refine Runs.nilCell 2 3 27 13 (evGet []) rfl rfl ?_
    refine loop_ruleR (N := env (lft Try.prog 0) 0 .std tb [(56, appMeth 79 sRdText), (57, appMeth 79 sRdNum), (58, appMeth 79 sCount), (60, appMeth 79 sRdEnd), (59, appPure sDec), (27, appRds 13 sMayBl)] []) rfl tb_ok hC (fun c st K _ h => h) (by kernel_rfl) [] (X := LD l N.toNat (A0, B0))
      (S := fun x => ⟨[.any, .any, .c (.ptr 0 0), .c (.int .i64 0), .c (.ptr 1 0), .c (.ptr 2 0), .c (.int .i64 N), .c (.int .i64 x.i)] ++ List.replicate 66 .any, [.cells 40 [.str [], .int .i64 0, .int .i64 0, .val (.slice none 0 0)], .cells 79 [.str l, .int .i64 x.a, .int .i64 x.b], .cells 40 [.str t1.1, .int .i64 t2.1, .int .i64 t3.1, .row 3], .row 27 13 x.xs.length (evGet x.xs)]⟩) (μ := fun x => N.toNat - x.i.toNat) ⟨0, A0, B0, [], by omega, by omega, rfl, fun h => by rw [hbd h]; rfl, h4, by simp, by simp⟩ (by kernel_rfl) [0, 1, 2, 3] ?_ ?_
    · refine ⟨rfl, by decide, ?_, ?_⟩
      · repeat' (first | exact trivial | exact rfl | apply And.intro)
      · repeat' (first | exact trivial | exact rfl | apply And.intro)
        all_goals first | (intro i hi; rfl) | skip
    rintro ⟨i, a, b, xs, hi0, hin, hxl, hb0, hok, he, hf⟩
    unfold sRdText sRdNum sCount sRdEnd sDec sMayBl
    generalize hg0 : textS = g0
    generalize hg1 : numS = g1
    generalize hg2 : countS = g2
    generalize hg3 : okRd = g3
    generalize hg4 : endS = g4
    generalize hg5 : decEv = g5
    generalize hg6 : decBl = g6
    generalize hg7 : mayBl = g7
    generalize hg8 : BlAt = g8
    generalize hg9 : evsOf = g9
    generalize hg10 : evGet = g10
    generalize hg11 : (pushG) = g11
    generalize hg12 : (List.length : List UInt8 → Nat) = g12
    generalize hg13 : (List.length : List Ev → Nat) = g13
    generalize hL : lft Try.prog _ = L
    generalize hA : Arith.std = A
    cbv
    subst hA hg0 hg1 hg2 hg3 hg4 hg5 hg6 hg7 hg8 hg9 hg10 hg11 hg12 hg13 hL
    replace hin : i ≤ (N.toNat : Int) := hin
    replace hxl : xs.length = i.toNat := hxl
    replace hok : okRd l a b := hok
    replace hb0 : b ≠ 0 → N.toNat = 0 := hb0
    have fin : ¬ i < N → repR rEvT N.toNat l (A0, B0) = (xs, (a, b)) := fun hnlt => by
      have ei : N.toNat - i.toNat = 0 := by omega
      rw [he, ei]
      simp [repR]
    refine Ife.mk (fun h => ?_) (fun h => ?_)
    · have hlt : i < N := of_decide_eq_true (p := i < N) h
      have hb : b = 0 := Decidable.byContradiction fun hb => by have := hb0 hb; omega
      obtain ⟨m, hm⟩ : ∃ m, N.toNat - i.toNat = m + 1 := ⟨N.toNat - i.toNat - 1, by omega⟩
      rw [hm] at he
      refine Ife.mk (fun _ => ?_) (fun h => absurd h (by simp [Arith.std, hb]))
      refine Need.mk hok fun _ => ?_
      have hok2 := ok_text (hi := 1000) hok
      have htl := text_len l a b 1000
      refine Ife.mk (fun h => ?_) (fun h => ?_)
      · have ht : (textS l a b 1000).2.2 ≠ 0 := by simpa [Arith.std] using h
        have hev : rEvT l (a, b) = (zeroEv, (textS l a b 1000).2) := by unfold rEvT rText; rw [if_pos ht]
        have hs := rep_step m l (a, b) (by rw [hev]; exact ht)
        rw [hev] at hs
        have hE := end_bad (l := l) (a := (textS l a b 1000).2.1) ht
        have hD := dec_err hR (by rw [he]; dsimp only; rw [hs]; exact hE) ht
        refine Need.mk hok2 fun _ => ?_
        refine Ife.mk (fun h => ?_) (fun h => ?_)
        · have h : endS l (textS l a b 1000).2.1 (textS l a b 1000).2.2 = 0 := by simpa [Arith.std] using h
          exact absurd (hE.symm.trans h) ht
        · refine Ife.mk (fun h => ?_) (fun h => ?_)
          · rw [hE]
            exact left_err rfl hD rfl
          · have h : endS l (textS l a b 1000).2.1 (textS l a b 1000).2.2 = 0 := by simpa [Arith.std] using h
            exact absurd (hE.symm.trans h) ht
      · have ht : (textS l a b 1000).2.2 = 0 := by simpa [Arith.std] using h
        refine Need.mk (show _ ≤ _ from Nat.le_trans htl hp) fun _ => ?_
        refine Ife.mk (fun h => ?_) (fun h => ?_)
        · have hd : (decEv (textS l a b 1000).1).2 ≠ 0 := by simpa [Arith.std] using h
          have hev : rEvT l (a, b) = (zeroEv, ((textS l a b 1000).2.1, (decEv (textS l a b 1000).1).2)) := by unfold rEvT rText; rw [if_neg (by simp [ht]), if_pos hd]
          have hs := rep_step m l (a, b) (by rw [hev]; exact hd)
          rw [hev] at hs
          have hD := dec_err hR (by rw [he]; dsimp only; rw [hs]; exact end_bad hd) hd
          exact left_err rfl hD rfl
        · have hd : (decEv (textS l a b 1000).1).2 = 0 := by simpa [Arith.std] using h
          have hev : rEvT l (a, b) = ((decEv (textS l a b 1000).1).1, (textS l a b 1000).2) := by unfold rEvT rText; rw [if_neg (by simp [ht]), if_neg (by simp [hd])]
          refine Need.mk (show xs.length + 1 ≤ maxLen ∧ (xs.length + 1) * _ ≤ 140737488355328 from ⟨by unfold maxLen; omega, by omega⟩) fun _ => ?_
          refine Need.mk (show -9223372036854775808 ≤ i + 1 ∧ i + 1 ≤ 9223372036854775807 by omega) fun _ => ?_
          refine ⟨⟨i + 1, (textS l a b 1000).2.1, (textS l a b 1000).2.2, xs ++ [(decEv (textS l a b 1000).1).1], by omega, by omega, by simp; omega, fun h => absurd ht h, hok2, ?_, ?_⟩, [0, 1, 2, 6], by show N.toNat - (i + 1).toNat < N.toNat - i.toNat; omega, ?_⟩
          · have e1 : N.toNat - (i + 1).toNat = m := by omega
            rw [e1, he]
            show (xs ++ (rEvT l (a, b)).1 :: (repR rEvT m l (rEvT l (a, b)).2).1, (repR rEvT m l (rEvT l (a, b)).2).2) = _
            rw [hev]
            simp
          · intro x hx
            rcases List.mem_append.1 hx with hx | hx
            · exact hf x hx
            · rw [List.mem_singleton] at hx
              subst hx
              exact decEv_fits (Nat.le_trans htl hp)
          · refine ⟨rfl, by decide, ?_, ?_⟩
            · repeat' (first | exact trivial | exact rfl | apply And.intro)
            · repeat' (first | exact trivial | exact rfl | apply And.intro)
              · simp
              · intro i hi
                exact evGet_push _ _ i (by simpa using hi)
    · have hnlt : ¬ i < N := of_decide_eq_false (p := i < N) h
      rw [fin hnlt] at hR
      dsimp only at hR
      refine Need.mk hok fun _ => ?_
      refine Ife.mk (fun h => ?_) (fun h => ?_)
      · have hE : endS l a b = 0 := by simpa [Arith.std] using h
        have hM := dec_may hR hE
        refine Need.mk ⟨Nat.le_trans hcl (Nat.le_trans hp (by decide)), evGet_at hf, show xs.length ≤ _ by omega⟩ fun _ => ?_
        rw [evsOf_evGet]
        refine Ife.mk (fun h => ?_) (fun h => ?_)
        · have h : mayBl ⟨t1.1, t2.1, t3.1, xs⟩ = false := by simpa [Arith.std] using h
          rw [if_neg (by simp [h])] at hM
          refine Ife.mk (fun _ => ?_) (fun h => absurd h (by simp [Arith.std]))
          exact left_err rfl hM rfl
        · have h : mayBl ⟨t1.1, t2.1, t3.1, xs⟩ = true := by simpa [Arith.std] using h
          rw [if_pos h] at hM
          rw [hM]
          refine Ife.mk (fun h => absurd h (by simp [Arith.std, hE])) (fun _ => ?_)
          refine ⟨[3], rfl, ?_, by simp, ?_, trivial⟩
          · refine ⟨⟨rfl, ⟨rfl, rfl⟩, ⟨rfl, rfl⟩, rfl, trivial⟩, ⟨rfl, rfl⟩, trivial⟩
          · exact ⟨rfl, rfl, rfl, fun i hi => rfl⟩
      · have hE : endS l a b ≠ 0 := by simpa [Arith.std] using h
        refine Ife.mk (fun _ => ?_) (fun h => absurd h (by simp [Arith.std, hE]))
        exact left_err rfl (dec_err hR rfl hE) rfl

end Vx
end Go.Proofs.Ytpapfokdhmpmjaa
