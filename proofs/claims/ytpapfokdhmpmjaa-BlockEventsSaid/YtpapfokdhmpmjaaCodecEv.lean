/- What packets and events are written as is read back, plainly. -/
import Derived.Test.YtpapfokdhmpmjaaCodec
namespace Go.Proofs.Ytpapfokdhmpmjaa
set_option linter.unusedVariables false
set_option linter.unusedSimpArgs false

def textB (m : List UInt8) : List UInt8 := Leb.put m.length ++ m
theorem codecEnd : Codec rEnd (fun z : List UInt8 × Int => textB z.1 ++ Leb.put z.2) (fun z => (z.1.length : Int) ≤ 12 ∧ (0 ≤ z.2 ∧ z.2 ≤ 999)) :=
  (Codec.text 12 (by decide)).bind fun _ => Codec.num 0 999 (by decide) (by decide)

def pkB (p : Pkt) : List UInt8 := (textB p.sp ++ Leb.put p.sc) ++ ((textB p.dp ++ Leb.put p.dc) ++ (Leb.put p.seq ++ (textB p.data ++ (Leb.put p.th ++ Leb.put p.ta))))
def pkV (p : Pkt) : Prop := ((p.sp.length : Int) ≤ 12 ∧ (0 ≤ p.sc ∧ p.sc ≤ 999)) ∧ (((p.dp.length : Int) ≤ 12 ∧ (0 ≤ p.dc ∧ p.dc ≤ 999)) ∧ ((1 ≤ p.seq ∧ p.seq ≤ 1099511627776) ∧ ((p.data.length : Int) ≤ 200 ∧ ((0 ≤ p.th ∧ p.th ≤ 1099511627776) ∧ (0 ≤ p.ta ∧ p.ta ≤ 1099511627776)))))
theorem codecPk : Codec rPk pkB pkV :=
  (codecEnd.bind fun _ => codecEnd.bind fun _ => (Codec.num 1 1099511627776 (by decide) (by decide)).bind fun _ => (Codec.text 200 (by decide)).bind fun _ => (Codec.num 0 1099511627776 (by decide) (by decide)).bind fun _ => Codec.num 0 1099511627776 (by decide) (by decide)).map
    (fun z => (⟨z.1.1, z.1.2, z.2.1.1, z.2.1.2, z.2.2.1, z.2.2.2.1, z.2.2.2.2.1, z.2.2.2.2.2⟩ : Pkt)) (fun p => ((p.sp, p.sc), (p.dp, p.dc), p.seq, p.data, p.th, p.ta)) (fun _ => rfl) (fun _ => rfl)

def evB (x : Ev) : List UInt8 := Leb.put x.kind ++ ((if hasPk x.kind then pkB x.pk else []) ++ ((if decide (x.kind = 3) then textB x.ack else []) ++ ((if decide (x.kind = 6) then textB x.ep ++ Leb.put x.ec else []) ++ (if decide (x.kind = 7) then Leb.put x.height else []))))
def evV (x : Ev) : Prop := (1 ≤ x.kind ∧ x.kind ≤ 7) ∧ ((if hasPk x.kind then pkV x.pk else x.pk = zeroPkt) ∧ ((if decide (x.kind = 3) then (x.ack.length : Int) ≤ 32 else x.ack = []) ∧ ((if decide (x.kind = 6) then ((x.ep.length : Int) ≤ 12 ∧ (0 ≤ x.ec ∧ x.ec ≤ 999)) else (x.ep, x.ec) = ([], 0)) ∧ (if decide (x.kind = 7) then (1 ≤ x.height ∧ x.height ≤ 1099511627776) else x.height = 0))))
theorem codecEv : Codec rEv evB evV :=
  ((Codec.num 1 7 (by decide) (by decide)).bind fun k => (codecPk.ite (hasPk k) zeroPkt).bind fun _ => ((Codec.text 32 (by decide)).ite (decide (k = 3)) []).bind fun _ => (codecEnd.ite (decide (k = 6)) ([], 0)).bind fun _ => (Codec.num 1 1099511627776 (by decide) (by decide)).ite (decide (k = 7)) 0).map
    (fun z => (⟨z.1, z.2.1, z.2.2.1, z.2.2.2.1.1, z.2.2.2.1.2, z.2.2.2.2⟩ : Ev)) (fun x => (x.kind, x.pk, x.ack, (x.ep, x.ec), x.height)) (fun _ => rfl) (fun _ => rfl)

theorem mayPk_V {p : Pkt} (h : mayPkt p = true) : pkV p := by
  unfold mayPkt at h
  simp only [Bool.and_eq_true, decide_eq_true_eq, between] at h
  obtain ⟨⟨⟨⟨⟨h1, h2⟩, h3⟩, h4⟩, h5⟩, h6⟩ := h
  obtain ⟨a1, a2, a3⟩ := mayEnd_facts h1
  obtain ⟨b1, b2, b3⟩ := mayEnd_facts h2
  refine ⟨⟨by omega, by omega, by omega⟩, ⟨by omega, by omega, by omega⟩, h3, by omega, h5, h6⟩
theorem mayEv_V {x : Ev} (h : mayEv x = true) : evV x := by
  obtain ⟨h1, h2, h3, h4, h5, h6⟩ := mayEv_facts h
  refine ⟨h1, ?_, ?_, ?_, ?_⟩
  · split
    · exact mayPk_V (h3 (by assumption))
    · rename_i hn
      rw [h2]
      simp [plainEv, hn]
  · split
    · rename_i hn
      have := (h4 (by simpa using hn)).2
      omega
    · rename_i hn
      rw [h2]
      simp at hn
      simp [plainEv, hn]
  · split
    · rename_i hn
      have := mayEnd_facts (h5 (by simpa using hn))
      exact ⟨by omega, by omega, by omega⟩
    · rename_i hn
      rw [h2]
      simp at hn
      simp [plainEv, hn]
  · split
    · rename_i hn
      exact h6 (by simpa using hn)
    · rename_i hn
      rw [h2]
      simp at hn
      simp [plainEv, hn]

theorem put_ne {v : Int} (h0 : 0 ≤ v) (h1 : v ≤ 72057594037927935) : Leb.put v ≠ [] := by
  have := (Leb.put_len v h0 h1).1
  intro e
  rw [e] at this
  simp at this
theorem wN_ok {v : Int} {l : List UInt8} (h0 : 0 ≤ v) (h1 : v ≤ 72057594037927935) : wN v (l, false) = (l ++ Leb.put v, false) := by
  simp [wN, numW, numBad, putW, put_ne h0 h1]
theorem wT_ok {m : List UInt8} {l : List UInt8} (h : (m.length : Int) ≤ 72057594037927935) : wT m (l, false) = (l ++ textB m, false) := by
  simp [wT, textW, textB, numW, numBad, putW, put_ne (show 0 ≤ (m.length : Int) by omega) h]
theorem wPk_ok {p : Pkt} {l : List UInt8} (h : pkV p) : wPk p (l, false) = (l ++ pkB p, false) := by
  obtain ⟨⟨h1, h2, h3⟩, ⟨h4, h5, h6⟩, ⟨h7, h8⟩, h9, ⟨h10, h11⟩, h12, h13⟩ := h
  unfold wPk
  rw [wT_ok (by omega), wN_ok (by omega) (by omega), wT_ok (by omega), wN_ok (by omega) (by omega), wN_ok (by omega) (by omega), wT_ok (by omega), wN_ok (by omega) (by omega), wN_ok (by omega) (by omega)]
  simp [pkB]
theorem wEv_ok {x : Ev} {l : List UInt8} (h : evV x) : wEv x (l, false) = (l ++ evB x, false) := by
  obtain ⟨⟨h1, h2⟩, h3, h4, h5, h6⟩ := h
  have hk : (if hasPk x.kind then wPk x.pk (wN x.kind (l, false)) else wN x.kind (l, false)) = (l ++ Leb.put x.kind ++ (if hasPk x.kind then pkB x.pk else []), false) := by
    rw [wN_ok (by omega) (by omega)]
    split
    · rename_i hp
      rw [if_pos hp] at h3
      rw [wPk_ok h3]
    · simp
  unfold wEv evB
  dsimp only
  rw [hk]
  by_cases k3 : x.kind = 3
  · rw [if_pos (by simpa using k3)] at h4
    rw [if_pos k3, wT_ok (by omega)]
    simp [k3]
  · by_cases k6 : x.kind = 6
    · rw [if_pos (by simpa using k6)] at h5
      rw [if_neg k3, if_pos k6, wT_ok (by omega), wN_ok (by omega) (by omega)]
      simp [k6]
    · by_cases k7 : x.kind = 7
      · rw [if_pos (by simpa using k7)] at h6
        rw [if_neg k3, if_neg k6, if_pos k7, wN_ok (by omega) (by omega)]
        simp [k7]
      · rw [if_neg k3, if_neg k6, if_neg k7]
        simp [k3, k6, k7]

theorem enc_may {x : Ev} (h : mayEv x = true) : encEv x = (evB x, 0) := by
  unfold encEv
  rw [if_pos h, wEv_ok (mayEv_V h)]
  simp [bytesW, badW]
theorem enc_not {x : Ev} (h : mayEv x = false) : encEv x = ([], 1) := by
  unfold encEv
  rw [if_neg (by simp [h])]

theorem rEv_bad {l : List UInt8} (h : (Leb.next l 0).2.2 ≠ 0) : (rEv l (0, 0)).2 = (0, (Leb.next l 0).2.2) := by
  have h1 : rNum 1 7 l (0, 0) = (0, 0, (Leb.next l 0).2.2) := by
    unfold rNum numS
    dsimp only
    rw [if_neg (by simp), if_pos h]
  unfold rEv
  dsimp only
  rw [h1]
  dsimp only
  simp [rIf, hasPk]
theorem decEv_eq (l : List UInt8) : decEv l = if endS l (rEv l (0, 0)).2.1 (rEv l (0, 0)).2.2 ≠ 0 then (zeroEv, endS l (rEv l (0, 0)).2.1 (rEv l (0, 0)).2.2) else if mayEv (rEv l (0, 0)).1 then ((rEv l (0, 0)).1, 0) else (zeroEv, 1) := by
  unfold decEv
  by_cases h : (Leb.next l 0).2.2 = 0
  · rw [if_neg (by simp [h])]
  · rw [if_pos h, rEv_bad h]
    have : endS l 0 (Leb.next l 0).2.2 = (Leb.next l 0).2.2 := by simp [endS, h]
    simp [this, h]

theorem dec_back {x : Ev} (h : mayEv x = true) : decEv (evB x) = (x, 0) := by
  have := codecEv.back [] x [] (mayEv_V h)
  simp only [List.nil_append, List.append_nil] at this
  have e : ((([] : List UInt8).length : Nat) : Int) = 0 := rfl
  rw [e] at this
  rw [decEv_eq, this]
  simp [endS, h]
theorem dec_long {x : Ev} {q : List UInt8} (h : mayEv x = true) (hq : q ≠ []) : decEv (evB x ++ q) = (zeroEv, 3) := by
  have := codecEv.back [] x q (mayEv_V h)
  simp only [List.nil_append] at this
  have e : ((([] : List UInt8).length : Nat) : Int) = 0 := rfl
  rw [e] at this
  rw [decEv_eq, this]
  have hl : 0 < q.length := List.length_pos_iff.mpr hq
  have : endS (evB x ++ q) ((evB x).length : Int) 0 = 3 := by
    unfold endS
    rw [if_pos ⟨rfl, by simp; omega⟩]
  simp [this]
theorem dec_short {x : Ev} {k : Nat} (h : mayEv x = true) (hk : k < (evB x).length) : decEv ((evB x).take k) = (zeroEv, 2) := by
  have := codecEv.short [] x k (mayEv_V h) hk
  simp only [List.nil_append] at this
  have e : ((([] : List UInt8).length : Nat) : Int) = 0 := rfl
  rw [e] at this
  rw [decEv_eq]
  have h2 : endS ((evB x).take k) (rEv ((evB x).take k) (0, 0)).2.1 (rEv ((evB x).take k) (0, 0)).2.2 = 2 := by
    rw [this]
    simp [endS]
  simp [h2]
theorem dec_one {l : List UInt8} (h : (decEv l).2 = 0) : mayEv (decEv l).1 = true ∧ evB (decEv l).1 = l := by
  rw [decEv_eq] at h ⊢
  by_cases h1 : endS l (rEv l (0, 0)).2.1 (rEv l (0, 0)).2.2 = 0
  · rw [if_neg (by simp [h1])] at h ⊢
    by_cases h2 : mayEv (rEv l (0, 0)).1 = true
    · rw [if_pos h2] at h ⊢
      refine ⟨h2, ?_⟩
      have hb : (rEv l (0, 0)).2.2 = 0 ∧ (l.length : Int) ≤ (rEv l (0, 0)).2.1 := by
        unfold endS at h1
        split at h1
        · exact absurd h1 (by decide)
        · rename_i hn
          refine ⟨h1, ?_⟩
          have : ¬ (rEv l (0, 0)).2.1 < (l.length : Int) := fun hc => hn ⟨h1, hc⟩
          omega
      obtain ⟨_, p, q, e1, e2, e3⟩ := codecEv.one l 0 (rEv l (0, 0)).1 (rEv l (0, 0)).2.1 (by omega) (Prod.ext rfl (Prod.ext rfl hb.1))
      obtain rfl : p = [] := List.length_eq_zero_iff.mp e2
      rw [e3] at hb
      have hl := congrArg List.length e1
      simp only [List.nil_append, List.length_append] at hl e1 hb
      have hq : q = [] := List.length_eq_zero_iff.mp (by omega)
      subst hq
      simpa using e1.symm
    · rw [if_neg h2] at h
      simp at h
  · rw [if_pos h1] at h
    exact absurd h h1
theorem dec_zero {l : List UInt8} (h : (decEv l).2 ≠ 0) : (decEv l).1 = zeroEv := by
  rw [decEv_eq] at h ⊢
  split at h
  · rename_i h1
    rw [if_pos h1]
  · rename_i h1
    rw [if_neg h1]
    split at h
    · exact absurd rfl h
    · rename_i h2
      rw [if_neg h2]
theorem evB_inj {x y : Ev} (hx : mayEv x = true) (hy : mayEv y = true) (h : evB x = evB y) : x = y := by
  have h1 := dec_back hx
  have h2 := dec_back hy
  rw [h, h2] at h1
  exact (Prod.mk.inj h1).1.symm
theorem evB_len {x : Ev} (h : mayEv x = true) : (evB x).length ≤ 1000 := by
  obtain ⟨h1, h2, h3, h4, h5, h6⟩ := mayEv_facts h
  have hp : ∀ v, (Leb.put v).length ≤ 8 := Leb.put_len_le
  have hk : (if hasPk x.kind then pkB x.pk else []).length ≤ 400 := by
    split
    · obtain ⟨⟨g1, g2, g3⟩, ⟨g4, g5, g6⟩, ⟨g7, g8⟩, g9, ⟨g10, g11⟩, g12, g13⟩ := mayPk_V (h3 (by assumption))
      unfold pkB textB
      simp only [List.length_append]
      have := hp x.pk.sc; have := hp x.pk.dc; have := hp x.pk.seq; have := hp x.pk.th; have := hp x.pk.ta; have := hp x.pk.sp.length; have := hp x.pk.dp.length; have := hp x.pk.data.length
      omega
    · simp
  have ha : (if decide (x.kind = 3) then textB x.ack else []).length ≤ 40 := by
    split
    · rename_i hn
      have := (h4 (by simpa using hn)).2
      have := hp x.ack.length
      unfold textB
      simp only [List.length_append]
      omega
    · simp
  have he : (if decide (x.kind = 6) then textB x.ep ++ Leb.put x.ec else []).length ≤ 40 := by
    split
    · rename_i hn
      have := (mayEnd_facts (h5 (by simpa using hn))).1
      have := hp x.ep.length; have := hp x.ec
      unfold textB
      simp only [List.length_append]
      omega
    · simp
  have hh : (if decide (x.kind = 7) then Leb.put x.height else []).length ≤ 40 := by
    split
    · have := hp x.height; omega
    · simp
  have := hp x.kind
  unfold evB
  rw [List.length_append, List.length_append, List.length_append, List.length_append]
  omega
end Go.Proofs.Ytpapfokdhmpmjaa
