/- ligref22.Cut, by the walker. -/
import Derived.Test.YthomoliklfmnkaaM31
section
namespace Go.Proofs.Ythomoliklfmnkaa.Vx
open Go.RowKit
set_option linter.unusedVariables false
set_option linter.unusedSimpArgs false
/-- One place more. -/
def rstep (F : List PMsg → Bool) (m : Int → PMsg) (s : List (List Int) × List Int × List PMsg) (r : Int) : List (List Int) × List Int × List PMsg :=
  if s.2.1 ≠ [] ∧ F (s.2.2 ++ [m r]) = false then (s.1 ++ [s.2.1], [r], [m r]) else (s.1, s.2.1 ++ [r], s.2.2 ++ [m r])
def rfin (s : List (List Int) × List Int × List PMsg) : List (List Int) := if s.2.1 = [] then s.1 else s.1 ++ [s.2.1]
theorem rgo_fold (F : List PMsg → Bool) (m : Int → PMsg) : ∀ (rs : List Int) (T : List (List Int)) (now : List Int) (cur : List PMsg), rgo F m T now cur rs = rfin (rs.foldl (rstep F m) (T, now, cur))
  | [], T, now, cur => rfl
  | r :: rs, T, now, cur => by
    rw [List.foldl_cons]
    unfold rgo
    split
    · rename_i h
      rw [rgo_fold F m rs, show rstep F m (T, now, cur) r = (T ++ [now], [r], [m r]) from if_pos h]
    · rename_i h
      rw [rgo_fold F m rs, show rstep F m (T, now, cur) r = (T, now ++ [r], cur ++ [m r]) from if_neg h]
theorem cutT_fold {g b c : Int} {U M : List PMsg} {gs : List Int} : cutT g b c U M gs = rfin ((skOf g b c U M gs).rest.foldl (rstep (fitsM g b c) (placeM M)) ([], [], U)) := rgo_fold _ _ _ _ _ _

end Go.Proofs.Ythomoliklfmnkaa.Vx
end

section
/- liglaw28.lists and the law BatchCuts, by the walker. -/
namespace Go.Proofs.Ythomoliklfmnkaa.Vx
open Go.RowKit
set_option linter.unusedVariables false
set_option linter.unusedSimpArgs false
def tA (T : List (List Int)) (i : Nat) : List Int := T.getD i []
def tN (T : List (List Int)) (i : Nat) : Nat := (tA T i).length
/-- Lists of numbers as elements. -/
def txEP (zp0 : type_of% @tA) (zp1 : type_of% @tN) (zp2 : type_of% @iA) (fr : Bool) (T : List (List Int)) (i : Nat) (j : Nat) : Cell := .es fr 3 1 (zp1 T i) (inGP zp2 (zp0 T i))
@[reducible] def txE := txEP tA tN iA
theorem rstep_all {F : List PMsg → Bool} {m : Int → PMsg} : ∀ (rs : List Int) (T : List (List Int)) (now : List Int) (cur : List PMsg), (rs.foldl (rstep F m) (T, now, cur)).1.flatten ++ (rs.foldl (rstep F m) (T, now, cur)).2.1 = T.flatten ++ now ++ rs
  | [], T, now, cur => by simp
  | r :: rs, T, now, cur => by
    rw [List.foldl_cons]
    by_cases h : now ≠ [] ∧ F (cur ++ [m r]) = false
    · rw [show rstep F m (T, now, cur) r = (T ++ [now], [r], [m r]) from if_pos h, rstep_all rs]
      simp
    · rw [show rstep F m (T, now, cur) r = (T, now ++ [r], cur ++ [m r]) from if_neg h, rstep_all rs]
      simp
/-- The transactions, put behind one another, are what is not skipped. -/
theorem cutT_flat {g b c : Int} {U M : List PMsg} {gs : List Int} : (cutT g b c U M gs).flatten = (skOf g b c U M gs).rest := by
  rw [cutT_fold]
  have h := rstep_all (F := fitsM g b c) (m := placeM M) (skOf g b c U M gs).rest [] [] U
  generalize (skOf g b c U M gs).rest.foldl (rstep (fitsM g b c) (placeM M)) ([], [], U) = s at *
  unfold rfin
  split
  · rename_i h0
    rw [h0] at h
    simpa using h
  · simpa using h
theorem rstep_ne {F : List PMsg → Bool} {m : Int → PMsg} : ∀ (rs : List Int) (T : List (List Int)) (now : List Int) (cur : List PMsg), (∀ t ∈ T, t ≠ []) → ∀ t ∈ (rs.foldl (rstep F m) (T, now, cur)).1, t ≠ []
  | [], T, now, cur, h => h
  | r :: rs, T, now, cur, h => by
    rw [List.foldl_cons]
    by_cases h2 : now ≠ [] ∧ F (cur ++ [m r]) = false
    · rw [show rstep F m (T, now, cur) r = (T ++ [now], [r], [m r]) from if_pos h2]
      refine rstep_ne rs _ _ _ fun t ht => ?_
      rcases List.mem_append.1 ht with h3 | h3
      · exact h t h3
      · rw [List.mem_singleton.1 h3]; exact h2.1
    · rw [show rstep F m (T, now, cur) r = (T, now ++ [r], cur ++ [m r]) from if_neg h2]
      exact rstep_ne rs _ _ _ h
theorem cutT_ne {g b c : Int} {U M : List PMsg} {gs : List Int} : ∀ t ∈ cutT g b c U M gs, t ≠ [] := by
  rw [cutT_fold]
  have h := rstep_ne (F := fitsM g b c) (m := placeM M) (skOf g b c U M gs).rest [] [] U (fun t ht => absurd ht (by simp))
  generalize (skOf g b c U M gs).rest.foldl (rstep (fitsM g b c) (placeM M)) ([], [], U) = s at *
  unfold rfin
  split
  · exact h
  · rename_i h0
    intro t ht
    rcases List.mem_append.1 ht with h3 | h3
    · exact h t h3
    · rw [List.mem_singleton.1 h3]; exact h0
theorem flat_ge {T : List (List Int)} (h : ∀ t ∈ T, t ≠ []) : T.length ≤ T.flatten.length := by
  induction T with
  | nil => simp
  | cons t T ih =>
    have h1 := ih fun x hx => h x (by simp [hx])
    have h2 : t ≠ [] := h t (by simp)
    have h3 : 0 < t.length := List.length_pos_iff.2 h2
    rw [List.flatten_cons, List.length_append, List.length_cons]
    omega
theorem cutT_len {g b c : Int} {U M : List PMsg} {gs : List Int} : (cutT g b c U M gs).length ≤ M.length := by
  have h := flat_ge (cutT_ne (g := g) (b := b) (c := c) (U := U) (M := M) (gs := gs))
  rw [cutT_flat] at h
  have h2 := skip_len (F := fitsWith g b c U M) (G := groupOf M.length gs) M.length
  have h3 : (skOf g b c U M gs).lost.length + (skOf g b c U M gs).rest.length = M.length := h2.2
  omega
theorem tN_le {T : List (List Int)} {i : Nat} (hi : i < T.length) : tN T i ≤ T.flatten.length := by
  have hm : tA T i ∈ T := by
    unfold tA
    simp [List.getD, hi]
  exact (List.sublist_flatten_of_mem hm).length_le
theorem cutT_tN {g b c : Int} {U M : List PMsg} {gs : List Int} {i : Nat} (hi : i < (cutT g b c U M gs).length) : tN (cutT g b c U M gs) i ≤ M.length := by
  have h := tN_le hi
  rw [cutT_flat] at h
  have h2 := skip_len (F := fitsWith g b c U M) (G := groupOf M.length gs) M.length
  have h3 : (skOf g b c U M gs).lost.length + (skOf g b c U M gs).rest.length = M.length := h2.2
  omega


end Go.Proofs.Ythomoliklfmnkaa.Vx
end

section
/- What is skipped, and what is in the transactions: plainly. -/
namespace Go.Proofs.Ythomoliklfmnkaa.Vx
open Go.RowKit
set_option linter.unusedVariables false
set_option linter.unusedSimpArgs false
/-- What skip leaves. -/
structure SkOk (F : Nat → Bool) (G : Nat → Int) (n : Nat) (s : Sk) : Prop where
  lg : s.lg = s.lost.map fun x => G x.toNat
  bl : ∀ x ∈ s.lost, 0 ≤ x ∧ x < (n : Int)
  br : ∀ x ∈ s.rest, (0 ≤ x ∧ x < (n : Int)) ∧ F x.toNat = true
  sl : s.lost.Pairwise (· < ·)
  sr : s.rest.Pairwise (· < ·)
  all : ∀ i : Nat, i < n → (i : Int) ∈ s.lost ∨ (i : Int) ∈ s.rest
  dis : ∀ x, x ∈ s.lost → x ∈ s.rest → False
  why : ∀ k, k < s.lost.length → F (iA s.lost k).toNat = true → 0 < G (iA s.lost k).toNat ∧ ∃ j, j < k ∧ G (iA s.lost j).toNat = G (iA s.lost k).toNat
theorem iA_lt {l : List Int} {x : Int} {k : Nat} (h : k < l.length) : iA (l ++ [x]) k = iA l k := by
  unfold iA
  rw [List.getD_eq_getElem?_getD, List.getD_eq_getElem?_getD, List.getElem?_append_left h]
theorem iA_last {l : List Int} {x : Int} : iA (l ++ [x]) l.length = x := by
  unfold iA
  rw [List.getD_eq_getElem?_getD, List.getElem?_append_right (Nat.le_refl _)]
  simp
theorem pw_snoc {l : List Int} {x : Int} (h : l.Pairwise (· < ·)) (hx : ∀ y ∈ l, y < x) : (l ++ [x]).Pairwise (· < ·) := by
  rw [List.pairwise_append]
  exact ⟨h, List.pairwise_singleton _ _, fun a ha b hb => by rw [List.mem_singleton.1 hb]; exact hx a ha⟩
theorem skip_ok {F : Nat → Bool} {G : Nat → Int} : ∀ n, SkOk F G n (skip F G n)
  | 0 => ⟨rfl, fun x hx => absurd hx (by simp [skip]), fun x hx => absurd hx (by simp [skip]), by simp [skip], by simp [skip], fun i hi => absurd hi (by omega), fun x hx => absurd hx (by simp [skip]), fun k hk => absurd hk (by simp [skip])⟩
  | n + 1 => by
    have h := skip_ok (F := F) (G := G) n
    rw [skip_succ]
    generalize skip F G n = s at *
    unfold skStep
    split
    · rename_i ho
      refine ⟨?_, ?_, ?_, ?_, h.sr, ?_, ?_, ?_⟩
      · show s.lg ++ [G n] = (s.lost ++ [(n : Int)]).map _
        rw [List.map_append, h.lg]
        rfl
      · intro x hx
        rcases List.mem_append.1 hx with h1 | h1
        · have := h.bl x h1; omega
        · rw [List.mem_singleton.1 h1]; omega
      · intro x hx
        have := h.br x hx
        exact ⟨by omega, this.2⟩
      · exact pw_snoc h.sl fun y hy => (h.bl y hy).2
      · intro i hi
        rcases Nat.lt_succ_iff_lt_or_eq.1 hi with h1 | rfl
        · rcases h.all i h1 with h2 | h2
          · exact Or.inl (List.mem_append_left _ h2)
          · exact Or.inr h2
        · exact Or.inl (List.mem_append_right _ (by simp))
      · intro x hx hr
        rcases List.mem_append.1 hx with h1 | h1
        · exact h.dis x h1 hr
        · have := (h.br x hr).1
          rw [List.mem_singleton.1 h1] at this
          omega
      · intro k hk hF
        show 0 < G (iA (s.lost ++ [(n : Int)]) k).toNat ∧ ∃ j, j < k ∧ G (iA (s.lost ++ [(n : Int)]) j).toNat = G (iA (s.lost ++ [(n : Int)]) k).toNat
        replace hk : k < (s.lost ++ [(n : Int)]).length := hk
        replace hF : F (iA (s.lost ++ [(n : Int)]) k).toNat = true := hF
        simp only [List.length_append, List.length_singleton] at hk
        rcases Nat.lt_succ_iff_lt_or_eq.1 hk with h1 | rfl
        · rw [iA_lt h1] at hF ⊢
          obtain ⟨h2, j, h3, h4⟩ := h.why k h1 hF
          exact ⟨h2, j, h3, by rw [iA_lt (by omega)]; exact h4⟩
        · rw [iA_last] at hF ⊢
          replace hF : F n = true := hF
          unfold skOut at ho
          rw [hF] at ho
          simp only [Bool.not_true, Bool.or_false, Bool.and_eq_true, decide_eq_true_iff] at ho
          refine ⟨ho.1, ?_⟩
          have hm := ho.2
          rw [h.lg] at hm
          obtain ⟨y, hy, hg⟩ := List.mem_map.1 hm
          obtain ⟨j, hj, rfl⟩ := List.getElem_of_mem hy
          refine ⟨j, hj, ?_⟩
          rw [iA_lt hj]
          show G (iA s.lost j).toNat = G n
          rw [← hg]
          congr 2
          simp [iA, List.getD, hj]
    · rename_i ho
      have hF : F n = true := by
        unfold skOut at ho
        cases hF : F n
        · rw [hF] at ho; simp at ho
        · rfl
      refine ⟨h.lg, ?_, ?_, h.sl, ?_, ?_, ?_, ?_⟩
      · intro x hx
        have := h.bl x hx
        exact ⟨by omega, by omega⟩
      · intro x hx
        rcases List.mem_append.1 hx with h1 | h1
        · have := h.br x h1
          exact ⟨by omega, this.2⟩
        · rw [List.mem_singleton.1 h1]
          exact ⟨by omega, hF⟩
      · exact pw_snoc h.sr fun y hy => (h.br y hy).1.2
      · intro i hi
        rcases Nat.lt_succ_iff_lt_or_eq.1 hi with h1 | rfl
        · rcases h.all i h1 with h2 | h2
          · exact Or.inl h2
          · exact Or.inr (List.mem_append_left _ h2)
        · exact Or.inr (List.mem_append_right _ (by simp))
      · intro x hx hr
        rcases List.mem_append.1 hr with h1 | h1
        · exact h.dis x hx h1
        · have := h.bl x hx
          rw [List.mem_singleton.1 h1] at this
          omega
      · exact h.why
/-! ### Each transaction fits -/
def headU (U : List PMsg) (i : Nat) : List PMsg := if i = 0 then U else []
def txOf (m : Int → PMsg) (U : List PMsg) (T : List (List Int)) (i : Nat) : List PMsg := headU U i ++ (tA T i).map m
theorem tA_lt {T : List (List Int)} {x : List Int} {i : Nat} (h : i < T.length) : tA (T ++ [x]) i = tA T i := by
  unfold tA
  rw [List.getD_eq_getElem?_getD, List.getD_eq_getElem?_getD, List.getElem?_append_left h]
theorem tA_last {T : List (List Int)} {x : List Int} : tA (T ++ [x]) T.length = x := by
  unfold tA
  rw [List.getD_eq_getElem?_getD, List.getElem?_append_right (Nat.le_refl _)]
  simp
structure RInv (F : List PMsg → Bool) (m : Int → PMsg) (U : List PMsg) (s : List (List Int) × List Int × List PMsg) : Prop where
  cur : s.2.2 = headU U s.1.length ++ s.2.1.map m
  now : s.2.1 ≠ [] → F s.2.2 = true
  all : ∀ i, i < s.1.length → F (txOf m U s.1 i) = true
theorem RInv.snoc {F : List PMsg → Bool} {m : Int → PMsg} {U : List PMsg} {T : List (List Int)} {now : List Int} {cur : List PMsg} (h : RInv F m U (T, now, cur)) (hn : now ≠ []) : ∀ i, i < (T ++ [now]).length → F (txOf m U (T ++ [now]) i) = true := fun i hi => by
  rw [List.length_append, List.length_singleton] at hi
  rcases Nat.lt_succ_iff_lt_or_eq.1 hi with h1 | rfl
  · unfold txOf
    rw [tA_lt h1]
    exact h.all i h1
  · unfold txOf
    rw [tA_last]
    have := h.now hn
    rw [h.cur] at this
    exact this
theorem RInv.step {F : List PMsg → Bool} {m : Int → PMsg} {U : List PMsg} {s : List (List Int) × List Int × List PMsg} {r : Int} (h : RInv F m U s) (h1 : F (U ++ [m r]) = true) (h2 : F [m r] = true) : RInv F m U (rstep F m s r) := by
  obtain ⟨T, now, cur⟩ := s
  unfold rstep
  split
  · rename_i hc
    refine ⟨?_, fun _ => h2, h.snoc hc.1⟩
    show [m r] = headU U (T ++ [now]).length ++ [r].map m
    unfold headU
    rw [if_neg (by simp)]
    rfl
  · rename_i hc
    have hcur := h.cur
    replace hcur : cur = headU U T.length ++ now.map m := hcur
    refine ⟨?_, fun _ => ?_, h.all⟩
    · show cur ++ [m r] = headU U T.length ++ (now ++ [r]).map m
      rw [hcur, List.map_append, List.append_assoc]
      rfl
    · show F (cur ++ [m r]) = true
      by_cases hn : now = []
      · subst hn
        rw [hcur]
        unfold headU
        split
        · simpa using h1
        · simpa using h2
      · cases hF : F (cur ++ [m r])
        · exact absurd ⟨hn, hF⟩ hc
        · rfl
theorem RInv.foldl {F : List PMsg → Bool} {m : Int → PMsg} {U : List PMsg} : ∀ (rs : List Int) (s : List (List Int) × List Int × List PMsg), RInv F m U s → (∀ r ∈ rs, F (U ++ [m r]) = true ∧ F [m r] = true) → RInv F m U (rs.foldl (rstep F m) s)
  | [], s, h, _ => h
  | r :: rs, s, h, hr => RInv.foldl rs _ (h.step (hr r (by simp)).1 (hr r (by simp)).2) fun x hx => hr x (by simp [hx])
theorem cutT_fit {g b c : Int} {U M : List PMsg} {gs : List Int} (ho : ∀ x ∈ U, MsgOk x) {i : Nat} (hi : i < (cutT g b c U M gs).length) : fitsM g b c (txOf (placeM M) U (cutT g b c U M gs) i) = true := by
  have hk := skip_ok (F := fitsWith g b c U M) (G := groupOf M.length gs) M.length
  have h := RInv.foldl (F := fitsM g b c) (m := placeM M) (U := U) (skOf g b c U M gs).rest ([], [], U) ⟨by simp [headU], fun h => absurd rfl h, fun i hi => absurd hi (by simp)⟩ fun r hr => by
    obtain ⟨-, hF⟩ := hk.br r hr
    have h1 : fitsM g b c (U ++ [placeM M r]) = true := hF
    exact ⟨h1, fits_right ho h1⟩
  rw [cutT_fold] at hi ⊢
  generalize (skOf g b c U M gs).rest.foldl (rstep (fitsM g b c) (placeM M)) ([], [], U) = s at *
  obtain ⟨T, now, cur⟩ := s
  unfold rfin at hi ⊢
  by_cases hn : now = []
  · subst hn
    exact h.all i hi
  · rw [show (if (T, now, cur).2.1 = [] then (T, now, cur).1 else (T, now, cur).1 ++ [(T, now, cur).2.1]) = T ++ [now] from if_neg hn] at hi ⊢
    exact h.snoc hn i hi
/-! ### Places, one behind the other -/
theorem flat_take {T : List (List Int)} {i : Nat} (hi : i < T.length) : (T.take (i + 1)).flatten = (T.take i).flatten ++ tA T i := by
  rw [List.take_succ_eq_append_getElem hi, List.flatten_append]
  simp [tA, List.getD, hi]
theorem flat_at {T : List (List Int)} {i k : Nat} (hi : i < T.length) (hk : k < (tA T i).length) : (T.take i).flatten.length + k < T.flatten.length ∧ iA T.flatten ((T.take i).flatten.length + k) = iA (tA T i) k := by
  have e : T.flatten = (T.take i).flatten ++ (tA T i ++ (T.drop (i + 1)).flatten) := by
    rw [← List.append_assoc, ← flat_take hi, ← List.flatten_append, List.take_append_drop]
  rw [e]
  refine ⟨by simp only [List.length_append]; omega, ?_⟩
  unfold iA
  rw [List.getD_eq_getElem?_getD, List.getD_eq_getElem?_getD, List.getElem?_append_right (by omega), Nat.add_sub_cancel_left, List.getElem?_append_left hk]
def lastOf (R : List Int) (p : Nat) : Int := if p = 0 then -1 else iA R (p - 1)
theorem iA_getElem {l : List Int} {k : Nat} (h : k < l.length) : iA l k = l[k] := by simp [iA, List.getD, h]
theorem lastOf_lt {R : List Int} {p : Nat} (h : p < R.length) (hs : R.Pairwise (· < ·)) (h0 : ∀ x ∈ R, 0 ≤ x) : lastOf R p < iA R p := by
  unfold lastOf
  split
  · have := h0 _ (iA_mem h); omega
  · rw [iA_getElem h, iA_getElem (by omega)]
    exact List.pairwise_iff_getElem.1 hs (p - 1) p (by omega) h (by omega)
theorem lastOf_succ {R : List Int} {p : Nat} : lastOf R (p + 1) = iA R p := by
  unfold lastOf
  rw [if_neg (by omega)]
  rfl
/-- What was seen: 1 in a transaction, 2 skipped. -/
noncomputable def seenV (P Q : List Int) (j : Nat) : Int := if (j : Int) ∈ P then 1 else if (j : Int) ∈ Q then 2 else 0
noncomputable def seenGP (zp0 : type_of% @seenV) (P Q : List Int) (j : Nat) : List CV := [.int .i64 (zp0 P Q j)]
@[reducible] noncomputable def seenG := seenGP seenV
theorem seen_nil {n : Nat} : ∀ i, i < n → (fun _ => [CV.int .i64 0]) i = seenG [] [] i := fun i _ => by simp [seenG, seenGP, seenV]
theorem seen_one {P : List Int} {x : Int} {i n : Nat} (hx : x = (i : Int)) : ∀ j, j < n → upG (seenG P []) i 0 [.int .i64 1] j = seenG (P ++ [x]) [] j := fun j _ => by
  unfold upG
  cases hb : Nat.beq j i with
  | true =>
    have hj : j = i := Nat.eq_of_beq_eq_true hb
    subst hj
    show [CV.int .i64 1] = _
    simp [seenG, seenGP, seenV, hx]
  | false =>
    have hj : ¬ j = i := fun h => by rw [h] at hb; simp at hb
    show seenG P [] j = _
    unfold seenG seenGP seenV
    have hne : ¬ (j : Int) = x := by omega
    simp [List.mem_append, hne]
theorem seen_two {P Q : List Int} {x : Int} {i n : Nat} (hx : x = (i : Int)) (hp : x ∉ P) : ∀ j, j < n → upG (seenG P Q) i 0 [.int .i64 2] j = seenG P (Q ++ [x]) j := fun j _ => by
  unfold upG
  cases hb : Nat.beq j i with
  | true =>
    have hj : j = i := Nat.eq_of_beq_eq_true hb
    subst hj
    show [CV.int .i64 2] = _
    rw [hx] at hp
    simp [seenG, seenGP, seenV, hx, hp]
  | false =>
    have hj : ¬ j = i := fun h => by rw [h] at hb; simp at hb
    show seenG P Q j = _
    unfold seenG seenGP seenV
    have hne : ¬ (j : Int) = x := by omega
    simp [List.mem_append, hne]
theorem not_take {l : List Int} {k : Nat} (h : k < l.length) (hs : l.Pairwise (· < ·)) : iA l k ∉ l.take k := fun hm => by
  obtain ⟨j, hj, e⟩ := List.getElem_of_mem hm
  rw [List.length_take] at hj
  rw [List.getElem_take, iA_getElem h] at e
  have := List.pairwise_iff_getElem.1 hs j k (by omega) h (by omega)
  omega
end Go.Proofs.Ythomoliklfmnkaa.Vx
end
