/- Blocks held against each other, by the walker. -/
import Derived.Test.YtpapfokdhmpmjaaVBlk3
namespace Go.Proofs.Ytpapfokdhmpmjaa
open Go.RowKit
set_option linter.unusedVariables false
set_option linter.unusedSimpArgs false

deriving instance DecidableEq for Bl
theorem ev_chain (a b : Ev) : (decide (a.kind = b.kind) && (decide (a.pk.sp = b.pk.sp) && (decide (a.pk.sc = b.pk.sc) && (decide (a.pk.dp = b.pk.dp) && (decide (a.pk.dc = b.pk.dc) && (decide (a.pk.seq = b.pk.seq) && (decide (a.pk.data = b.pk.data) && (decide (a.pk.th = b.pk.th) && (decide (a.pk.ta = b.pk.ta) && (decide (a.ack = b.ack) && (decide (a.ep = b.ep) && (decide (a.ec = b.ec) && (decide (a.height = b.height) && true))))))))))))) = decide (a = b) := by
  obtain ⟨k, ⟨p0, p1, p2, p3, p4, p5, p6, p7⟩, x, y, z, t⟩ := a
  obtain ⟨k', ⟨p0', p1', p2', p3', p4', p5', p6', p7'⟩, x', y', z', t'⟩ := b
  rw [Bool.eq_iff_iff]
  simp [and_assoc]
namespace Vx
structure LQ (xs ys : Nat → Ev) (n : Nat) where
  i : Int
  h0 : 0 ≤ i
  h1 : i ≤ (n : Int)
  h2 : ∀ j : Nat, (j : Int) < i → xs j = ys j
theorem evs_eq {n m : Nat} {g k : Nat → List CV} : evsOf n g = evsOf m k ↔ n = m ∧ ∀ i, i < n → evAt (g i) = evAt (k i) := by
  constructor
  · intro h
    have h1 := congrArg List.length h
    rw [evsOf_len, evsOf_len] at h1
    subst h1
    refine ⟨rfl, fun i hi => ?_⟩
    have h2 := congrArg (fun l => l[i]?) h
    simp only [evsOf_get _ _ _ hi] at h2
    exact Option.some.inj h2
  · rintro ⟨rfl, h⟩
    unfold evsOf
    exact List.map_congr_left fun i hi => h i (by simpa using hi)
def sEqual : SpecR
  | [.c (.row 0), .c (.row 1)], [(n, g), (m, k)] => some ((EvsAt n g ∧ EvsAt m k ∧ n ≤ 9223372036854775807 ∧ m ≤ 9223372036854775807), .c (.bool (decide (evsOf n g = evsOf m k))))
  | _, _ => none

set_option maxRecDepth 100000 in
set_option maxHeartbeats 1000000 in
theorem equalP : Rds Try.prog 49 13 sEqual := by
  have hC : CtsOk Try.prog [] := CtsOk.nil _
  refine Rds.of (E := tb) [] 0 [(6, [(0, true), (1, true), (2, true), (3, true), (4, true), (5, true), (6, true), (7, true), (8, true)])] tb_ok hC (by kernel_rfl) Try.func49 rfl rfl rfl (by kernel_rfl) (by kernel_rfl) 27 2 ?_ ?_
  · intro args vs pre r h
    unfold sEqual at h
    split at h
    · cases h; exact ⟨rfl, rfl⟩
    · cases h
  · intro args vs pre r h hp
    unfold sEqual at h
    split at h
    rotate_left
    · cases h
    rename_i n g m k
    cases h
    obtain ⟨hp1, hp2, hp3, hp4⟩ := hp
    refine ⟨[(n, fun i => evC (evAt (g i))), (m, fun i => evC (evAt (k i)))], SameV.two (fun i hi => (hp1.same.2 0 _ _ rfl rfl).2 i hi) (fun i hi => (hp2.same.2 0 _ _ rfl rfl).2 i hi), ?_⟩
    generalize hE : decide (evsOf n g = evsOf m k) = E
    have hE : evsOf n g = evsOf m k ↔ E = true := by rw [← hE]; simp
    rw [evs_eq] at hE
    generalize hx : (fun i => evAt (g i)) = xs
    have hx : ∀ i, evAt (g i) = xs i := fun i => by rw [← hx]
    generalize hy : (fun i => evAt (k i)) = ys
    have hy : ∀ i, evAt (k i) = ys i := fun i => by rw [← hy]
    simp only [hx, hy] at hE ⊢
    generalize hg0 : (List.length : List UInt8 → Nat) = g0
    generalize hL : lft Try.prog _ = L
    generalize hA : Arith.std = A
    cbv
    subst hA hg0 hL
    refine Ife.mk (fun h => ?_) (fun h => ?_)
    · have h : n ≠ m := by
        have : ¬ (n : Int) = m := by simpa [Arith.std] using h
        omega
      show E = false
      cases E
      · rfl
      · exact absurd (hE.2 rfl).1 h
    have hnm : n = m := by
      have : (n : Int) = m := by simpa [Arith.std] using h
      omega
    show Runs Try.prog 2 (.loop _) _ _
    refine loop_rule (N := env (lft Try.prog 2) 0 .std tb [] [(6, [(0, true), (1, true), (2, true), (3, true), (4, true), (5, true), (6, true), (7, true), (8, true)])]) rfl tb_ok hC (fun c st K _ h => h) (by kernel_rfl) [] (X := LQ xs ys n)
      (S := fun x => ⟨[.c (.row 0), .c (.row 1)] ++ List.replicate 10 .any ++ [.c (.int .i64 n), .c (.int .i64 x.i)] ++ List.replicate 12 .any, [.elems 27 13 n (fun i => evC (xs i)), .elems 27 13 m (fun i => evC (ys i))]⟩) (μ := fun x => n - x.i.toNat) ⟨0, by omega, by omega, fun j hj => by omega⟩ (by kernel_rfl) (fun x => Nat.le_refl _) ?_ ?_
    · repeat' (first | exact trivial | exact rfl | apply And.intro)
    rintro ⟨i, hi0, hin, hall⟩
    generalize hg0 : (List.length : List UInt8 → Nat) = g0
    generalize hL : lft Try.prog _ = L
    generalize hA : Arith.std = A
    cbv
    subst hA hg0 hL
    replace hin : i ≤ (n : Int) := hin
    replace hall : ∀ j : Nat, (j : Int) < i → xs j = ys j := hall
    refine Ife.mk (fun h => ?_) (fun h => ?_)
    · have hlt : i < (n : Int) := of_decide_eq_true (p := i < (n : Int)) h
      have hk : i.toNat < n := by omega
      refine Need.mk (show 0 ≤ i ∧ i < (n : Int) from ⟨hi0, hlt⟩) fun _ => ?_
      refine Need.mk (show i.toNat < n from hk) fun _ => ?_
      refine Need.mk (show 0 ≤ i ∧ i < (m : Int) from ⟨hi0, by omega⟩) fun _ => ?_
      refine Need.mk (show i.toNat < m by omega) fun _ => ?_
      refine Ife.mk (fun h => ?_) (fun h => ?_)
      · have h : (!decide (xs i.toNat = ys i.toNat)) = true := by rw [← ev_chain]; exact h
        have h : xs i.toNat ≠ ys i.toNat := by simpa using h
        show E = false
        cases E
        · rfl
        · exact absurd ((hE.2 rfl).2 _ hk) h
      · have h : (!decide (xs i.toNat = ys i.toNat)) = false := by rw [← ev_chain]; exact h
        have h : xs i.toNat = ys i.toNat := by simpa using h
        refine Need.mk (show -9223372036854775808 ≤ i + 1 ∧ i + 1 ≤ 9223372036854775807 by omega) fun _ => ?_
        refine ⟨⟨i + 1, by omega, by omega, fun j hj => ?_⟩, by show n - (i + 1).toNat < n - i.toNat; omega, ?_⟩
        · by_cases hji : (j : Int) < i
          · exact hall j hji
          · obtain rfl : j = i.toNat := by omega
            exact h
        · repeat' (first | exact trivial | exact rfl | apply And.intro)
    · have hnlt : ¬ i < (n : Int) := of_decide_eq_false (p := i < (n : Int)) h
      show E = true
      exact hE.1 ⟨hnm, fun j hj => hall j (by omega)⟩

def sSameBl : SpecR
  | [.agg [.str c, .int .i64 ht, .int .i64 tm, .row 0], .agg [.str c', .int .i64 ht', .int .i64 tm', .row 1]], [(n, g), (m, k)] => some ((EvsAt n g ∧ EvsAt m k ∧ n ≤ 9223372036854775807 ∧ m ≤ 9223372036854775807), .c (.bool (decide ((⟨c, ht, tm, evsOf n g⟩ : Bl) = ⟨c', ht', tm', evsOf m k⟩))))
  | _, _ => none

set_option maxRecDepth 100000 in
set_option maxHeartbeats 1000000 in
theorem sameBlP : Rds Try.prog 22 13 sSameBl := by
  have hC : CtsOk Try.prog [(49, appRds 13 sEqual)] := CtsOk.cons (Rds.ct equalP) <| CtsOk.nil _
  refine Rds.of (E := tb) [] 0 [] tb_ok hC (by kernel_rfl) Try.func22 rfl rfl rfl (by kernel_rfl) (by kernel_rfl) 27 2 ?_ ?_
  · intro args vs pre r h
    unfold sSameBl at h
    split at h
    · cases h; exact ⟨rfl, rfl⟩
    · cases h
  · intro args vs pre r h hp
    unfold sSameBl at h
    split at h
    rotate_left
    · cases h
    rename_i c ht tm c' ht' tm' n g m k
    cases h
    refine ⟨_, SameV.refl _, ?_⟩
    obtain ⟨hp1, hp2, hp3, hp4⟩ := hp
    have hc : ∀ b : Bool, b = decide (evsOf n g = evsOf m k) → (decide (c = c') && (decide (ht = ht') && (decide (tm = tm') && b))) = decide ((⟨c, ht, tm, evsOf n g⟩ : Bl) = ⟨c', ht', tm', evsOf m k⟩) := fun b hb => by
      rw [hb, Bool.eq_iff_iff]
      simp
    generalize hD : decide ((⟨c, ht, tm, evsOf n g⟩ : Bl) = ⟨c', ht', tm', evsOf m k⟩) = D at *
    have hc := hc _ rfl
    unfold sEqual
    generalize hg0 : evsOf = g0
    generalize hg1 : EvsAt = g1
    generalize hg2 : (@decide) = g2
    generalize hA : Arith.std = A
    cbv
    subst hA hg0 hg1 hg2
    refine Ife.mk (fun h1 => ?_) (fun h1 => ?_)
    · have h1 : decide (c = c') = true := h1
      refine Ife.mk (fun h2 => ?_) (fun h2 => ?_)
      · have h2 : decide (ht = ht') = true := h2
        refine Ife.mk (fun h3 => ?_) (fun h3 => ?_)
        · have h3 : decide (tm = tm') = true := h3
          refine Need.mk ⟨hp1, hp2, hp3, hp4⟩ fun _ => ?_
          rw [← hc, h1, h2, h3]
          rfl
        · have h3 : decide (tm = tm') = false := h3
          rw [← hc, h1, h2, h3]
          rfl
      · have h2 : decide (ht = ht') = false := h2
        rw [← hc, h1, h2]
        rfl
    · have h1 : decide (c = c') = false := h1
      rw [← hc, h1]
      rfl

end Vx
end Go.Proofs.Ytpapfokdhmpmjaa
