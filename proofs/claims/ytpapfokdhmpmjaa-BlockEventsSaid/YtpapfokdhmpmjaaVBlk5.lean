/- The law BlockBack, by the walker. -/
import Derived.Test.YtpapfokdhmpmjaaVBlk4
namespace Go.Proofs.Ytpapfokdhmpmjaa
open Go.RowKit
set_option linter.unusedVariables false
set_option linter.unusedSimpArgs false

namespace Vx
theorem repR_fits {l : List UInt8} (h : l.length ≤ 140737488351232) : ∀ (n : Nat) (s : Int × Int), ∀ x ∈ (repR rEvT n l s).1, x.fits
  | 0, s, x, hx => by simp [repR] at hx
  | n + 1, s, x, hx => by
    have hx : x ∈ (rEvT l s).1 :: (repR rEvT n l (rEvT l s).2).1 := hx
    rcases List.mem_cons.1 hx with rfl | hx
    · unfold rEvT
      split
      · exact zeroEv_fits
      · split
        · exact zeroEv_fits
        · exact decEv_fits (Nat.le_trans (text_len l s.1 s.2 1000) h)
    · exact repR_fits h n _ x hx
theorem decBl_fits {l : List UInt8} (h : l.length ≤ 140737488351232) : ∀ x ∈ (decBl l).1.evs, x.fits := by
  unfold decBl decOf
  split
  · intro x hx; simp [zeroBl] at hx
  · split
    · rw [rBl_eq]
      exact repR_fits h _ _
    · intro x hx; simp [zeroBl] at hx
theorem decBl_at {l : List UInt8} (h : l.length ≤ 140737488351232) : BlAt (decBl l).1.chain (decBl l).1.evs.length (evGet (decBl l).1.evs) := by
  refine ⟨?_, evGet_at (decBl_fits h), ?_⟩
  all_goals
    by_cases h0 : (decBl l).2 = 0
    · obtain ⟨m1, m2, m3, m4, m5⟩ := mayBl_facts (decBl_one h0).1
      have := name_le m1
      omega
    · rw [decBl_zero h0]; simp [zeroBl]
def sBlBack : SpecR
  | [.agg [.str c, .int .i64 ht, .int .i64 tm, .row 0], .c (.str s), .c (.int .i64 i)], [(n, get)] => some ((BlAt c n get ∧ s.length ≤ 9223372036854775807 ∧ isI64 i), .c (.bool true))
  | _, _ => none

set_option maxRecDepth 100000 in
set_option maxHeartbeats 1000000 in
theorem blBackP : Rds Try.prog 7 13 sBlBack := by
  have hC : CtsOk Try.prog [(15, appPure sTrue), (16, appRds 13 sLight), (17, appRds 13 sMayBl), (18, appRds 13 sEncBl), (21, appBorn 13 sDecBl), (22, appRds 13 sSameBl)] := CtsOk.cons (Pure.ct firstBP) <| CtsOk.cons (Rds.ct lightBlP) <| CtsOk.cons (Rds.ct mayBlP) <| CtsOk.cons (Rds.ct encBlP) <| CtsOk.cons (Born.ct decBlP) <| CtsOk.cons (Rds.ct sameBlP) <| CtsOk.nil _
  refine Rds.of (E := tb) [] 0 [] tb_ok hC (by kernel_rfl) Try.func7 rfl rfl rfl (by kernel_rfl) (by kernel_rfl) 27 1 ?_ ?_
  · intro args vs pre r h
    unfold sBlBack at h
    split at h
    · cases h; exact ⟨rfl, rfl⟩
    · cases h
  · intro args vs pre r h hp
    unfold sBlBack at h
    split at h
    rotate_left
    · cases h
    rename_i c ht tm s i n get
    cases h
    obtain ⟨hp1, hp2, hp3⟩ := hp
    refine ⟨_, SameV.refl _, ?_⟩
    rw [← exec_assoc, ← exec_assoc]
    refine exec_cut fun K hn hr _ => ?_
    replace hn := Lib.hid hn
    replace hr := Lib.hid hr
    unfold sTrue sLight sMayBl sEncBl sDecBl sSameBl
    generalize hg0 : lightBl = g0
    generalize hg1 : encBl = g1
    generalize hg2 : BlAt = g2
    generalize hg3 : EvsAt = g3
    generalize hg4 : mayBl = g4
    generalize hg5 : evsOf = g5
    generalize hg6 : decBl = g6
    generalize hg7 : evGet = g7
    generalize hg8 : (List.length : List UInt8 → Nat) = g8
    generalize hg9 : (List.length : List Ev → Nat) = g9
    generalize hg10 : (instDecidableEqBl) = g10
    generalize hA : Arith.std = A
    cbv
    subst hA hg0 hg1 hg2 hg3 hg4 hg5 hg6 hg7 hg8 hg9 hg10
    refine Need.mk trivial fun _ => ?_
    refine Need.mk hp1 fun _ => ?_
    refine Ife.mk (fun _ => Need.mk trivial fun _ => hr.out _ (by rfl)) (fun hli => ?_)
    refine Ife.mk (fun _ => Need.mk trivial fun _ => hr.out _ (by rfl)) (fun hs => ?_)
    have hs : s.length ≤ 8000 := by
      have h : ¬ (8000 : Int) < s.length := of_decide_eq_false (p := (8000 : Int) < s.length) hs
      exact Int.ofNat_le.mp (Int.not_lt.mp h)
    have hli := of_not_ff hli
    refine hn.out _ ?_
    clear hn hr
    rw [← exec_assoc]
    refine exec_cut fun K hn hr _ => ?_
    replace hn := Lib.hid hn
    replace hr := Lib.hid hr
    unfold sTrue sLight sMayBl sEncBl sDecBl sSameBl
    generalize hg0 : lightBl = g0
    generalize hg1 : encBl = g1
    generalize hg2 : BlAt = g2
    generalize hg3 : EvsAt = g3
    generalize hg4 : mayBl = g4
    generalize hg5 : evsOf = g5
    generalize hg6 : decBl = g6
    generalize hg7 : evGet = g7
    generalize hg8 : (List.length : List UInt8 → Nat) = g8
    generalize hg9 : (List.length : List Ev → Nat) = g9
    generalize hg10 : (instDecidableEqBl) = g10
    generalize hA : Arith.std = A
    cbv
    subst hA hg0 hg1 hg2 hg3 hg4 hg5 hg6 hg7 hg8 hg9 hg10
    refine Need.mk hp1 fun _ => ?_
    refine Need.mk hp1 fun _ => ?_
    refine Ife.mk (fun h => ?_) (fun _ => ?_)
    · exfalso
      cases hm : mayBl (⟨c, ht, tm, evsOf n get⟩ : Bl)
      · simp [encBl, hm, Arith.std] at h
      · simp [enc_mayBl hm, hm, Arith.std] at h
    refine hn.out _ ?_
    clear hn hr
    refine exec_cut fun K hn hr _ => ?_
    replace hn := Lib.hid hn
    replace hr := Lib.hid hr
    unfold sTrue sLight sMayBl sEncBl sDecBl sSameBl
    generalize hg0 : lightBl = g0
    generalize hg1 : encBl = g1
    generalize hg2 : BlAt = g2
    generalize hg3 : EvsAt = g3
    generalize hg4 : mayBl = g4
    generalize hg5 : evsOf = g5
    generalize hg6 : decBl = g6
    generalize hg7 : evGet = g7
    generalize hg8 : (List.length : List UInt8 → Nat) = g8
    generalize hg9 : (List.length : List Ev → Nat) = g9
    generalize hg10 : (instDecidableEqBl) = g10
    generalize hA : Arith.std = A
    cbv
    subst hA hg0 hg1 hg2 hg3 hg4 hg5 hg6 hg7 hg8 hg9 hg10
    cases hm : mayBl (⟨c, ht, tm, evsOf n get⟩ : Bl)
    · refine Ife.mk (fun h => ?_) (fun _ => ?_)
      · exfalso
        simp [encBl, hm, Arith.std] at h
      · refine hn.out _ ?_
        clear hn hr
        unfold sTrue sLight sMayBl sEncBl sDecBl sSameBl
        generalize hg0 : lightBl = g0
        generalize hg1 : encBl = g1
        generalize hg2 : BlAt = g2
        generalize hg3 : EvsAt = g3
        generalize hg4 : mayBl = g4
        generalize hg5 : evsOf = g5
        generalize hg6 : decBl = g6
        generalize hg7 : evGet = g7
        generalize hg8 : (List.length : List UInt8 → Nat) = g8
        generalize hg9 : (List.length : List Ev → Nat) = g9
        generalize hg10 : (instDecidableEqBl) = g10
        generalize hA : Arith.std = A
        cbv
        subst hA hg0 hg1 hg2 hg3 hg4 hg5 hg6 hg7 hg8 hg9 hg10
        refine Need.mk (show s.length ≤ _ by omega) fun _ => ?_
        have hat := decBl_at (l := s) (by omega)
        have ho : (decBl s).2 = 0 → mayBl (decBl s).1 = true ∧ encBl (decBl s).1 = (s, 0) := fun h => ⟨(decBl_one h).1, by rw [enc_mayBl (decBl_one h).1, (decBl_one h).2]⟩
        have hz : (decBl s).2 ≠ 0 → (decBl s).1 = zeroBl := decBl_zero
        generalize decBl s = D at hat ho hz ⊢
        obtain ⟨⟨c3, h3, t3, x3⟩, e3⟩ := D
        dsimp only at hat ho hz ⊢
        refine Ife.mk (fun h => ?_) (fun h => ?_)
        · have h : e3 ≠ 0 := by simpa [Arith.std] using h
          refine Need.mk ⟨hat.evs, fun i hi => absurd hi (by simp), hat.n, by simp⟩ fun _ => ?_
          rw [evsOf_evGet]
          have hz := hz h
          show decide _ = true
          rw [decide_eq_true_eq, hz]
          rfl
        · have h : e3 = 0 := by simpa [Arith.std] using h
          obtain ⟨m, e⟩ := ho h
          refine Need.mk hat fun _ => ?_
          refine Need.mk hat fun _ => ?_
          rw [evsOf_evGet]
          simp [m, e, Arith.std, Ife_iff]
    
    · have he := enc_mayBl hm
      have he2 : (encBl (⟨c, ht, tm, evsOf n get⟩ : Bl)).2 = 0 := by rw [he]
      have d1 : decBl (encBl (⟨c, ht, tm, evsOf n get⟩ : Bl)).1 = ((⟨c, ht, tm, evsOf n get⟩ : Bl), 0) := by rw [he]; exact decBl_back hm
      have d2 : decBl ((encBl (⟨c, ht, tm, evsOf n get⟩ : Bl)).1 ++ [97]) = (zeroBl, 3) := by rw [he]; exact decBl_long hm (by simp)
      have d3 : i < ((encBl (⟨c, ht, tm, evsOf n get⟩ : Bl)).1.length : Int) → 0 ≤ i → decBl ((encBl (⟨c, ht, tm, evsOf n get⟩ : Bl)).1.take i.toNat) = (zeroBl, 2) := fun h1 h2 => by
        rw [he] at h1 ⊢
        exact decBl_short hm (by dsimp only at h1; omega)
      have h60 : n ≤ 60 := by
        unfold lightBl lightEvs at hli
        simp only [Bool.and_eq_true, decide_eq_true_eq] at hli
        exact hli.2.1
      have hl : (encBl (⟨c, ht, tm, evsOf n get⟩ : Bl)).1.length ≤ 100000 := by rw [he]; exact blB_len hm (by dsimp only; rw [evsOf_len]; exact h60)
      clear he
      refine Ife.mk (fun _ => ?_) (fun h => absurd h (by simp [he2, Arith.std]))
      refine Need.mk (Nat.le_trans hl (by decide)) fun _ => ?_
      refine Need.mk (show ((encBl (⟨c, ht, tm, evsOf n get⟩ : Bl)).1.length : Int) + ([97] : List UInt8).length ≤ 9223372036854775807 by simp; omega) fun _ => ?_
      refine Need.mk (show ((encBl (⟨c, ht, tm, evsOf n get⟩ : Bl)).1 ++ [97]).length ≤ 140737488351232 by simp; omega) fun _ => ?_
      have hat := decBl_at (l := (encBl (⟨c, ht, tm, evsOf n get⟩ : Bl)).1) (by omega)
      refine Ife.mk (fun h => absurd h (by simp [Arith.std, d1])) (fun _ => ?_)
      refine Need.mk ⟨hat.evs, hp1.evs, hat.n, hp1.n⟩ fun _ => ?_
      rw [evsOf_evGet]
      refine Ife.mk (fun h => absurd h (by simp [Arith.std, d1])) (fun _ => ?_)
      refine Ife.mk (fun h => absurd h (by simp [Arith.std, d2])) (fun _ => ?_)
      refine Ife.mk (fun h1 => ?_) (fun _ => ?_)
      · have h1 : 0 ≤ i := of_decide_eq_true (p := 0 ≤ i) h1
        refine Ife.mk (fun h2 => ?_) (fun _ => ?_)
        · have h2 : i < ((encBl (⟨c, ht, tm, evsOf n get⟩ : Bl)).1.length : Int) := of_decide_eq_true (p := i < ((encBl (⟨c, ht, tm, evsOf n get⟩ : Bl)).1.length : Int)) h2
          have d3 := d3 h2 h1
          refine Need.mk (show (0 : Int) ≤ 0 ∧ (0 : Int) ≤ i ∧ i ≤ ((encBl (⟨c, ht, tm, evsOf n get⟩ : Bl)).1.length : Int) from ⟨by omega, h1, by omega⟩) fun _ => ?_
          refine Need.mk (show (((encBl (⟨c, ht, tm, evsOf n get⟩ : Bl)).1.take i.toNat).drop (0 : Int).toNat).length ≤ 140737488351232 by simp; omega) fun _ => ?_
          refine Ife.mk (fun h => absurd h (by simp [Arith.std, d3])) (fun _ => ?_)
          refine hn.out _ ?_
          clear hn hr
          unfold sTrue sLight sMayBl sEncBl sDecBl sSameBl
          generalize hg0 : lightBl = g0
          generalize hg1 : encBl = g1
          generalize hg2 : BlAt = g2
          generalize hg3 : EvsAt = g3
          generalize hg4 : mayBl = g4
          generalize hg5 : evsOf = g5
          generalize hg6 : decBl = g6
          generalize hg7 : evGet = g7
          generalize hg8 : (List.length : List UInt8 → Nat) = g8
          generalize hg9 : (List.length : List Ev → Nat) = g9
          generalize hg10 : (instDecidableEqBl) = g10
          generalize hA : Arith.std = A
          cbv
          subst hA hg0 hg1 hg2 hg3 hg4 hg5 hg6 hg7 hg8 hg9 hg10
          refine Need.mk (show s.length ≤ _ by omega) fun _ => ?_
          have hat := decBl_at (l := s) (by omega)
          have ho : (decBl s).2 = 0 → mayBl (decBl s).1 = true ∧ encBl (decBl s).1 = (s, 0) := fun h => ⟨(decBl_one h).1, by rw [enc_mayBl (decBl_one h).1, (decBl_one h).2]⟩
          have hz : (decBl s).2 ≠ 0 → (decBl s).1 = zeroBl := decBl_zero
          generalize decBl s = D at hat ho hz ⊢
          obtain ⟨⟨c3, h3, t3, x3⟩, e3⟩ := D
          dsimp only at hat ho hz ⊢
          refine Ife.mk (fun h => ?_) (fun h => ?_)
          · have h : e3 ≠ 0 := by simpa [Arith.std] using h
            refine Need.mk ⟨hat.evs, fun i hi => absurd hi (by simp), hat.n, by simp⟩ fun _ => ?_
            rw [evsOf_evGet]
            have hz := hz h
            show decide _ = true
            rw [decide_eq_true_eq, hz]
            rfl
          · have h : e3 = 0 := by simpa [Arith.std] using h
            obtain ⟨m, e⟩ := ho h
            refine Need.mk hat fun _ => ?_
            refine Need.mk hat fun _ => ?_
            rw [evsOf_evGet]
            simp [m, e, Arith.std, Ife_iff]
    
        · refine hn.out _ ?_
          clear hn hr
          unfold sTrue sLight sMayBl sEncBl sDecBl sSameBl
          generalize hg0 : lightBl = g0
          generalize hg1 : encBl = g1
          generalize hg2 : BlAt = g2
          generalize hg3 : EvsAt = g3
          generalize hg4 : mayBl = g4
          generalize hg5 : evsOf = g5
          generalize hg6 : decBl = g6
          generalize hg7 : evGet = g7
          generalize hg8 : (List.length : List UInt8 → Nat) = g8
          generalize hg9 : (List.length : List Ev → Nat) = g9
          generalize hg10 : (instDecidableEqBl) = g10
          generalize hA : Arith.std = A
          cbv
          subst hA hg0 hg1 hg2 hg3 hg4 hg5 hg6 hg7 hg8 hg9 hg10
          refine Need.mk (show s.length ≤ _ by omega) fun _ => ?_
          have hat := decBl_at (l := s) (by omega)
          have ho : (decBl s).2 = 0 → mayBl (decBl s).1 = true ∧ encBl (decBl s).1 = (s, 0) := fun h => ⟨(decBl_one h).1, by rw [enc_mayBl (decBl_one h).1, (decBl_one h).2]⟩
          have hz : (decBl s).2 ≠ 0 → (decBl s).1 = zeroBl := decBl_zero
          generalize decBl s = D at hat ho hz ⊢
          obtain ⟨⟨c3, h3, t3, x3⟩, e3⟩ := D
          dsimp only at hat ho hz ⊢
          refine Ife.mk (fun h => ?_) (fun h => ?_)
          · have h : e3 ≠ 0 := by simpa [Arith.std] using h
            refine Need.mk ⟨hat.evs, fun i hi => absurd hi (by simp), hat.n, by simp⟩ fun _ => ?_
            rw [evsOf_evGet]
            have hz := hz h
            show decide _ = true
            rw [decide_eq_true_eq, hz]
            rfl
          · have h : e3 = 0 := by simpa [Arith.std] using h
            obtain ⟨m, e⟩ := ho h
            refine Need.mk hat fun _ => ?_
            refine Need.mk hat fun _ => ?_
            rw [evsOf_evGet]
            simp [m, e, Arith.std, Ife_iff]
    
      · refine hn.out _ ?_
        clear hn hr
        unfold sTrue sLight sMayBl sEncBl sDecBl sSameBl
        generalize hg0 : lightBl = g0
        generalize hg1 : encBl = g1
        generalize hg2 : BlAt = g2
        generalize hg3 : EvsAt = g3
        generalize hg4 : mayBl = g4
        generalize hg5 : evsOf = g5
        generalize hg6 : decBl = g6
        generalize hg7 : evGet = g7
        generalize hg8 : (List.length : List UInt8 → Nat) = g8
        generalize hg9 : (List.length : List Ev → Nat) = g9
        generalize hg10 : (instDecidableEqBl) = g10
        generalize hA : Arith.std = A
        cbv
        subst hA hg0 hg1 hg2 hg3 hg4 hg5 hg6 hg7 hg8 hg9 hg10
        refine Need.mk (show s.length ≤ _ by omega) fun _ => ?_
        have hat := decBl_at (l := s) (by omega)
        have ho : (decBl s).2 = 0 → mayBl (decBl s).1 = true ∧ encBl (decBl s).1 = (s, 0) := fun h => ⟨(decBl_one h).1, by rw [enc_mayBl (decBl_one h).1, (decBl_one h).2]⟩
        have hz : (decBl s).2 ≠ 0 → (decBl s).1 = zeroBl := decBl_zero
        generalize decBl s = D at hat ho hz ⊢
        obtain ⟨⟨c3, h3, t3, x3⟩, e3⟩ := D
        dsimp only at hat ho hz ⊢
        refine Ife.mk (fun h => ?_) (fun h => ?_)
        · have h : e3 ≠ 0 := by simpa [Arith.std] using h
          refine Need.mk ⟨hat.evs, fun i hi => absurd hi (by simp), hat.n, by simp⟩ fun _ => ?_
          rw [evsOf_evGet]
          have hz := hz h
          show decide _ = true
          rw [decide_eq_true_eq, hz]
          rfl
        · have h : e3 = 0 := by simpa [Arith.std] using h
          obtain ⟨m, e⟩ := ho h
          refine Need.mk hat fun _ => ?_
          refine Need.mk hat fun _ => ?_
          rw [evsOf_evGet]
          simp [m, e, Arith.std, Ife_iff]
    

end Vx
end Go.Proofs.Ytpapfokdhmpmjaa
