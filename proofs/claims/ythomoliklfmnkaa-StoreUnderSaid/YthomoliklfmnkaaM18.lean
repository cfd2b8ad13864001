/- Pairs that come in, opened; the walk of StoreUnder. -/
import Derived.Test.YthomoliklfmnkaaM17
import Derived.Test.YthomoliklfmnkaaM16
section
namespace Go.Proofs.Ythomoliklfmnkaa.Vx
/-- A pair's values. -/
def prVals (x : PP) : List Value := [.string ⟨x.1.toArray⟩, .string ⟨x.2.toArray⟩]
end Go.Proofs.Ythomoliklfmnkaa.Vx
namespace Go.Proofs.Ythomoliklfmnkaa
open Go.ChangeShapes Go.WideShapes Go.ChangeAt Go.RowKit
set_option linter.unusedVariables false
set_option linter.unusedSimpArgs false
section
variable {H : Type} {enc : TypeId × Value → H} {w : World} {base : Nat}
theorem cells_RPair : Try.prog.cellsOf 30 = 2 := by kernel_rfl
set_option maxRecDepth 100000 in
theorem open_Prs {v : Value} {d : DataW H} {p : List MemPlace} (hv : Value.okWide Try.prog w .any base 22 v) (h : DataW.Trod enc Try.prog w 0 (fun _ => true) true 22 v d p) :
    ∃ (a : Option Addr) (cap : Nat) (ls : List Vx.PP), v = .slice a ls.length cap ∧ SlIn w a 2 cap (ls.map Vx.prVals) := by
  obtain ⟨a, cap, xs, rfl, hs, hx⟩ := open_slice (sz := 2) (P := fun l => ∃ x : Vx.PP, l = Vx.prVals x) (by decide) Try.underlying22 cells_RPair (fun fuel l x hl => by
    obtain ⟨ys, m, _, _, hl2, hlen, hff⟩ := DataW.trod_struct Try.underlying30 hl
    rw [cells_RPair] at hl2
    match l, hl2 with
    | [c0, c1], _ =>
      match ys, hlen with
      | [y0, y1], _ =>
        have f0 := hff 0 _ rfl
        have f1 := hff 1 _ rfl
        simp [cells_string] at f0 f1
        obtain ⟨s0, e0, _, hs0⟩ := DataW.trod_string Try.underlying9 f0
        obtain ⟨s1, e1, _, hs1⟩ := DataW.trod_string Try.underlying9 f1
        simp at e0 e1
        obtain ⟨l0, rfl, b0⟩ := bytesOf s0 hs0
        obtain ⟨l1, rfl, b1⟩ := bytesOf s1 hs1
        exact ⟨rfl, (l0, l1), by simp [Vx.prVals, e0, e1]⟩) hv h
  obtain ⟨f, hf⟩ : ∃ f : Nat → Vx.PP, ∀ i (hi : i < xs.length), xs[i] = Vx.prVals (f i) := by
    have key : ∀ i, ∃ n : Vx.PP, ∀ hi : i < xs.length, xs[i] = Vx.prVals n := fun i => by
      by_cases hi : i < xs.length
      · obtain ⟨n, e⟩ := (hx _ (List.getElem_mem hi)).2
        exact ⟨n, fun _ => e⟩
      · exact ⟨([], []), fun h => absurd h hi⟩
    exact ⟨fun i => (key i).choose, fun i hi => (key i).choose_spec hi⟩
  have e : xs = ((List.range xs.length).map f).map Vx.prVals := by
    apply List.ext_getElem (by simp)
    intro i h1 h2
    simp [hf i h1]
  refine ⟨a, cap, (List.range xs.length).map f, by simp, ?_⟩
  rw [← e]
  exact hs
theorem prs_good {w : World} {a : Option Addr} {cap : Nat} {ls : List Vx.PP} (hs : SlIn w a 2 cap (ls.map Vx.prVals)) : ∃ p : Vx.Pl, p.v = .slice a ls.length cap ∧ Vx.Good w 2 (ls.length, Vx.prG ls) p := by
  obtain ⟨p, hp, g⟩ := hs.good (get := Vx.prG ls) (fun i hi => by
    have hi' : i < ls.length := by simpa using hi
    rw [List.getElem_map]
    have e : ls.getD i ([], []) = ls[i] := by simp [List.getD, hi']
    unfold Vx.prG Vx.prGP Vx.prK Vx.prV
    rw [e]
    rfl)
  simp only [List.length_map] at hp g
  exact ⟨p, hp, g⟩
end
end Go.Proofs.Ythomoliklfmnkaa
end

section
/- StoreUnder, by the walker. -/
namespace Go.Proofs.Ythomoliklfmnkaa.Vx
open Go.RowKit
set_option linter.unusedVariables false
set_option linter.unusedSimpArgs false
def lawPreU (ty one n : Nat) (get : Nat → List CV) : Prop := ty = 30 ∧ one = 2 ∧ PrAt n get
structure LU1 (R : List PP) (N : Nat) where
  i : Nat
  M : List PP
  h1 : i ≤ N
  h2 : M = R.take i
structure LU2 (n : Nat) where
  i : Nat
  h1 : i ≤ n
structure LU3 (R : List PP) (f : List UInt8) (N : Nat) where
  i : Nat
  c : Nat
  h1 : i ≤ N
  h2 : c = cntP R f i
def sLawU : SpecF
  | [.c (.row 0), .c (.str f)], [.elems ty one n get] => some (lawPreU ty one n get, .c .tt, [.dead])
  | _, _ => none

set_option maxRecDepth 100000 in
set_option maxHeartbeats 16000000 in
theorem storeUnderP : Fn Try.prog 3 [] [(30, 2)] sLawU := by
  have hC : CtsOk Try.prog [(8, appFn [] [] sFirst12), (9, appFn [] [(30, 2)] sRise), (10, appFn [] [] sNewS), (11, appFn [] [] sSet), (12, appFn [] [] sUnder), (13, appFn [] [] sLen)] := CtsOk.cons (Fn.ct first12P) <| CtsOk.cons (Fn.ct riseP) <| CtsOk.cons (Fn.ct newSP) <| CtsOk.cons (Fn.ct setSP) <| CtsOk.cons (Fn.ct underSP) <| CtsOk.cons (Fn.ct lenSP) <| CtsOk.nil _
  refine Fn.of (E := tbU) [] 0 [(12, [(2003, false), (2004, false), (0, true), (1, true), (2, true), (3, true), (4, true), (5, true), (6, true), (7, true), (8, true), (9, true), (10, true), (11, false)]), (17, [(0, true), (1, true), (2, true), (3, true), (4, true), (5, true), (6, true), (7, true), (8, true), (9, true), (10, true), (11, true), (12, true), (13, true), (14, true), (15, true), (16, true), (17, true), (18, true), (19, true), (20, true), (21, true), (22, true), (23, true), (24, true), (25, true), (26, true), (27, true), (28, true), (29, true), (30, true), (31, true), (32, true), (33, true), (34, true), (35, true), (36, true), (37, true), (38, true)])] tbU_ok hC (by kernel_rfl) Try.func3 rfl rfl rfl (by kernel_rfl) (by kernel_rfl) 1 33 2 ?_ ?_
  · intro args h pre r h' hs
    unfold sLawU at hs
    split at hs
    · cases hs; exact ⟨rfl, rfl, Nat.le_of_ble_eq_true rfl⟩
    · cases hs
  · intro args h pre r h' hs hp
    unfold sLawU at hs
    split at hs
    rotate_left
    · cases hs
    rename_i f ty one n get
    cases hs
    obtain ⟨rfl, rfl, hst⟩ := hp
    refine ⟨[.elems 30 2 n (prG (prL n get))], hst.same, ?_⟩
    have hL : (prL n get).length = n := prL_len
    generalize prL n get = L at hL ⊢
    unfold sFirst12 sRise sNewS sSet sUnder sLen
    generalize hg0 : (List.length : List PP → Nat) = g0
    generalize hL : lft Try.prog _ = L
    try unfold prG
    generalize ho0 : @prK = zo0, ho1 : @prV = zo1, ho2 : @prL = zo2, ho3 : @ltB = zo3, ho4 : @szB = zo4, ho5 : @putS = zo5, ho6 : @underL = zo6, ho7 : @preB = zo7, ho8 : @prPre = zo8, ho9 : @prPreR = zo9, ho10 : @riseL = zo10, ho11 : @lawPreU = zo11
    generalize hA : Arith.std = A
    cbv
    subst hA hg0 hL ho0 ho1 ho2 ho3 ho4 ho5 ho6 ho7 ho8 ho9 ho10 ho11
    have hmn : ((min (n : Int) 30) - 0).toNat ≤ 30 := by omega
    refine Need.mk trivial fun _ => Need.mk (by show (0 : Int) ≤ 0 ∧ (0 : Int) ≤ min (n : Int) 30 ∧ min (n : Int) 30 ≤ (n : Int); omega) fun _ => ?_
    refine Need.mk ⟨rfl, rfl, fun i hi => ⟨_, _, rfl⟩, (by show ((min (n : Int) 30) - 0).toNat ≤ 1000000; omega)⟩ fun _ => Need.mk trivial fun _ => ?_
    have hRs : StS (riseL (prL ((min (n : Int) 30) - 0).toNat fun i => prG L (0 + i))) := rise_s
    have hRz : AllSz (riseL (prL ((min (n : Int) 30) - 0).toNat fun i => prG L (0 + i))) := rise_sz
    have hRl : (riseL (prL ((min (n : Int) 30) - 0).toNat fun i => prG L (0 + i))).length ≤ 30 := by
      have h1 := rise_len (L := prL ((min (n : Int) 30) - 0).toNat fun i => prG L (0 + i))
      rw [prL_len] at h1
      omega
    refine Ife.mk (fun h => ?_) (fun h => ?_)
    · refine Need.mk trivial fun _ => ?_
      exact ⟨[0], ⟨rfl, (by repeat' (first | exact trivial | exact hR1 | exact hR2 | exact hR3 | exact hR4 | exact hA1 | exact hA2 | exact hB1 | exact hB2 | exact rfl | apply And.intro | exact (fun _ _ _ _ => Cell.le_refl _) | (intro i hi; rfl) | (intro i hi; exact absurd hi (Nat.not_lt_zero _)))), (by show List.Nodup []; exact List.nodup_nil), rfl, by repeat' (first | exact trivial | exact hR1 | exact hR2 | exact hR3 | exact hR4 | exact hA1 | exact hA2 | exact hB1 | exact hB2 | exact rfl | apply And.intro | exact (fun _ _ _ _ => Cell.le_refl _) | (intro i hi; rfl) | (intro i hi; exact absurd hi (Nat.not_lt_zero _)))⟩⟩
    have h300 : ¬ (300 : Int) < (f.length : Int) := of_decide_eq_false (p := (300 : Int) < (f.length : Int)) h
    generalize hR : riseL (prL ((min (n : Int) 30) - 0).toNat fun i => prG L (0 + i)) = R at hRs hRz hRl
    obtain ⟨N, hN⟩ : ∃ N, R.length = N := ⟨_, rfl⟩
    have hR1 : (riseL (prL ((min (n : Int) 30) - 0).toNat fun i => prG L (0 + i))).length = N := by rw [hR, hN]
    have hR2 : ∀ i, i < N → prG (riseL (prL ((min (n : Int) 30) - 0).toNat fun i => prG L (0 + i))) i = prG R i := fun i _ => by rw [hR]
    clear hR
    show Runs Try.prog 1 (.loop _) _ _
    refine loop_ruleR (N := env (lft Try.prog 1) 0 .std tbU [(8, appFn [] [] sFirst12), (9, appFn [] [(30, 2)] sRise), (10, appFn [] [] sNewS), (11, appFn [] [] sSet), (12, appFn [] [] sUnder), (13, appFn [] [] sLen)] [(12, [(2003, false), (2004, false), (0, true), (1, true), (2, true), (3, true), (4, true), (5, true), (6, true), (7, true), (8, true), (9, true), (10, true), (11, false)]), (17, [(0, true), (1, true), (2, true), (3, true), (4, true), (5, true), (6, true), (7, true), (8, true), (9, true), (10, true), (11, true), (12, true), (13, true), (14, true), (15, true), (16, true), (17, true), (18, true), (19, true), (20, true), (21, true), (22, true), (23, true), (24, true), (25, true), (26, true), (27, true), (28, true), (29, true), (30, true), (31, true), (32, true), (33, true), (34, true), (35, true), (36, true), (37, true), (38, true)])]) rfl tbU_ok hC (fun c st K _ h => h) (by kernel_rfl) [] (X := LU1 R N)
      (S := fun x => ⟨[.c (.row 2), .c (.str f), .any, .any, .any, .c (.ptr 3 0), .c (.int .i64 (x.i : Int))] ++ List.replicate 133 .any, [.elems 30 2 n (prG L), .dead, .row 30 2 N (prG R), .cells 77 [.row 4], .row 33 2 x.M.length (prG x.M)]⟩) (μ := fun x => N - x.i) ⟨0, [], Nat.zero_le _, rfl⟩ (by kernel_rfl) [0, 1, 2, 3, 4] ?h0 ?rd
    case h0 =>
      refine ⟨rfl, by decide, ?_, ?_⟩ <;> repeat' (first | exact trivial | exact hR1 | exact hR2 | exact rfl | apply And.intro | exact (fun _ _ _ _ => Cell.le_refl _) | (intro i hi; rfl) | (intro i hi; exact absurd hi (Nat.not_lt_zero _)))
    case rd =>
      rintro ⟨i, M, hi, hM⟩
      unfold sFirst12 sRise sNewS sSet sUnder sLen
      generalize hg0 : (List.length : List PP → Nat) = g0
      generalize hg1 : (List.length : List UInt8 → Nat) = g1
      generalize hL : lft Try.prog _ = L
      try dsimp only
      try unfold prG
      generalize ho0 : @prK = zo0, ho1 : @prV = zo1, ho2 : @prL = zo2, ho3 : @ltB = zo3, ho4 : @szB = zo4, ho5 : @putS = zo5, ho6 : @underL = zo6, ho7 : @preB = zo7, ho8 : @prPre = zo8, ho9 : @prPreR = zo9, ho10 : @riseL = zo10, ho11 : @lawPreU = zo11
      generalize hA : Arith.std = A
      cbv
      subst hA hg0 hg1 hL ho0 ho1 ho2 ho3 ho4 ho5 ho6 ho7 ho8 ho9 ho10 ho11
      have hx : prL M.length (prG M) = M := prL_prG M
      have hML : M.length = i := by rw [hM, List.length_take]; omega
      refine Ife.mk (fun h => ?_) (fun h => ?_)
      · have h : (i : Int) < (N : Int) := of_decide_eq_true (p := (i : Int) < (N : Int)) h
        have hiN : i < N := Int.ofNat_lt.mp h
        have hsz := szB_iff.1 (hRz.at (i := i) (by omega))
        refine Need.mk (by show 0 ≤ (i : Int) ∧ (i : Int) < (N : Int); omega) fun _ => Need.mk (by show (i : Int).toNat < N; omega) fun _ => Need.mk (by show 0 ≤ (i : Int) ∧ (i : Int) < (N : Int); omega) fun _ => Need.mk (by show (i : Int).toNat < N; omega) fun _ => ?_
        refine Need.mk ⟨⟨rfl, rfl, prAt_prG _ M, by show M.length ≤ 1000000; omega⟩, by show StS (prL M.length (prG M)); rw [hx, hM]; exact hRs.sublist (List.take_sublist _ _), by show (prK R i).length ≤ 281474976710656; omega, by show (prV R i).length ≤ 281474976710656; omega⟩ fun _ => ?_
        refine Need.mk (by show fitStd .i64 ((i : Int) + 1); unfold fitStd; omega) fun _ => ?_
        have hp := put_snoc hRs hRz (i := i) (by omega)
        rw [← hM] at hp
        have hR3 : (putS (prL M.length (prG M)) (prK R i) (prV R i)).length = (R.take (i + 1)).length := by rw [hx, hp]
        have hR4 : ∀ j, j < (R.take (i + 1)).length → prG (putS (prL M.length (prG M)) (prK R i) (prV R i)) j = prG (R.take (i + 1)) j := fun j _ => by rw [hx, hp]
        refine ⟨⟨i + 1, R.take (i + 1), by omega, rfl⟩, [0, 1, 2, 3, 5], (by show N - (i + 1) < N - i; omega), ?_⟩
        refine ⟨rfl, (by show List.Nodup [0, 1, 2, 3, 5]; decide), ?_, ?_⟩ <;> repeat' (first | exact trivial | exact hR1 | exact hR2 | exact hR3 | exact hR4 | exact hA1 | exact hA2 | exact hB1 | exact hB2 | exact rfl | apply And.intro | exact (fun _ _ _ _ => Cell.le_refl _) | (intro i hi; rfl) | (intro i hi; exact absurd hi (Nat.not_lt_zero _)))
      have h : ¬ (i : Int) < (N : Int) := of_decide_eq_false (p := (i : Int) < (N : Int)) h
      have hiN : i = N := by omega
      have hMR : M = R := by rw [hM, List.take_of_length_le (by omega)]
      refine Need.mk ⟨⟨rfl, rfl, prAt_prG _ M, by show M.length ≤ 1000000; omega⟩, by show StS (prL M.length (prG M)); rw [hx, hMR]; exact hRs⟩ fun _ => ?_
      have hUs := under_s (f := f) hRs
      have hUL : (underL R f).length ≤ N := by rw [under_len]; have := underN_le (L := R) (f := f); omega
      have hUC := cnt_under (f := f) hRs
      have hUP : ∀ q, q < (underL R f).length → preB f (prK (underL R f) q) = true := fun q hq => under_pre hq
      have hA1 : M.length = N := by omega
      have hA2 : ∀ j, j < N → prG (prL M.length (prG M)) j = prG R j := fun j _ => by rw [hx, hMR]
      have hB : underL (prL M.length (prG M)) f = underL R f := by rw [hx, hMR]
      obtain ⟨nU, hnU⟩ : ∃ nU, (underL R f).length = nU := ⟨_, rfl⟩
      have hB1 : (underL (prL M.length (prG M)) f).length = nU := by rw [hB, hnU]
      have hB2 : ∀ j, j < nU → prG (underL (prL M.length (prG M)) f) j = prG (underL R f) j := fun j _ => by rw [hB]
      rw [hN, hnU] at hUC
      rw [hnU] at hUL hUP
      generalize underL R f = U at hUs hUP hB2 hnU
      clear hB
      show Runs Try.prog 1 (.loop _) _ _
      refine loop_ruleR (N := env (lft Try.prog 1) 0 .std tbU [(8, appFn [] [] sFirst12), (9, appFn [] [(30, 2)] sRise), (10, appFn [] [] sNewS), (11, appFn [] [] sSet), (12, appFn [] [] sUnder), (13, appFn [] [] sLen)] [(12, [(2003, false), (2004, false), (0, true), (1, true), (2, true), (3, true), (4, true), (5, true), (6, true), (7, true), (8, true), (9, true), (10, true), (11, false)]), (17, [(0, true), (1, true), (2, true), (3, true), (4, true), (5, true), (6, true), (7, true), (8, true), (9, true), (10, true), (11, true), (12, true), (13, true), (14, true), (15, true), (16, true), (17, true), (18, true), (19, true), (20, true), (21, true), (22, true), (23, true), (24, true), (25, true), (26, true), (27, true), (28, true), (29, true), (30, true), (31, true), (32, true), (33, true), (34, true), (35, true), (36, true), (37, true), (38, true)])]) rfl tbU_ok hC (fun c st K _ h => h) (by kernel_rfl) [] (X := LU2 nU)
        (S := fun x => ⟨[.c (.row 2), .c (.str f), .any, .any, .any, .c (.ptr 3 0), .any, .c (.row 5), .c (.int .i64 0), .c (.int .i64 (x.i : Int))] ++ List.replicate 130 .any, [.elems 30 2 n (prG L), .dead, .row 30 2 N (prG R), .cells 77 [.row 4], .row 33 2 N (prG R), .row 33 2 nU (prG U)]⟩) (μ := fun x => nU - x.i) ⟨0, Nat.zero_le _⟩ (by kernel_rfl) [0, 1, 2, 3, 4, 5] ?h02 ?rd2
      case h02 =>
        refine ⟨rfl, by decide, ?_, ?_⟩ <;> repeat' (first | exact trivial | exact hR1 | exact hR2 | exact hR3 | exact hR4 | exact hA1 | exact hA2 | exact hB1 | exact hB2 | exact rfl | apply And.intro | exact (fun _ _ _ _ => Cell.le_refl _) | (intro i hi; rfl) | (intro i hi; exact absurd hi (Nat.not_lt_zero _)))
      case rd2 =>
        rintro ⟨i2, hi2⟩
        unfold sFirst12 sRise sNewS sSet sUnder sLen
        generalize hg0 : (List.length : List PP → Nat) = g0
        generalize hg1 : (List.length : List UInt8 → Nat) = g1
        generalize hL : lft Try.prog _ = L
        try dsimp only
        try unfold prG
        generalize ho0 : @prK = zo0, ho1 : @prV = zo1, ho2 : @prL = zo2, ho3 : @ltB = zo3, ho4 : @szB = zo4, ho5 : @putS = zo5, ho6 : @underL = zo6, ho7 : @preB = zo7, ho8 : @prPre = zo8, ho9 : @prPreR = zo9, ho10 : @riseL = zo10, ho11 : @lawPreU = zo11
        generalize hA : Arith.std = A
        cbv
        subst hA hg0 hg1 hL ho0 ho1 ho2 ho3 ho4 ho5 ho6 ho7 ho8 ho9 ho10 ho11
        have hfit : i2 < nU → fitStd .i64 ((i2 : Int) + 1) := fun _ => by unfold fitStd; omega
        refine Ife.mk (fun h => ?_) (fun h => ?_)
        · have h : (i2 : Int) < (nU : Int) := of_decide_eq_true (p := (i2 : Int) < (nU : Int)) h
          have hiU : i2 < nU := Int.ofNat_lt.mp h
          have hp := hUP i2 hiU
          unfold preB at hp
          rw [Bool.and_eq_true, decide_eq_true_eq, decide_eq_true_eq] at hp
          obtain ⟨hp1, hp2⟩ := hp
          refine Need.mk (by show 0 ≤ (i2 : Int) ∧ (i2 : Int) < (nU : Int); omega) fun _ => Need.mk (by show (i2 : Int).toNat < nU; omega) fun _ => ?_
          refine Ife.mk (fun h2 => absurd (of_decide_eq_true (p := ((prK U i2).length : Int) < (f.length : Int)) h2) (by omega)) (fun _ => ?_)
          refine Need.mk (by show 0 ≤ (i2 : Int) ∧ (i2 : Int) < (nU : Int); omega) fun _ => Need.mk (by show (i2 : Int).toNat < nU; omega) fun _ => Need.mk (by show (0 : Int) ≤ 0 ∧ (0 : Int) ≤ (f.length : Int) ∧ (f.length : Int) ≤ ((prK U i2).length : Int); omega) fun _ => ?_
          refine Ife.mk (fun h3 => absurd (show (!decide ((prK U i2).take f.length = f)) = true from h3) (by rw [hp2]; simp)) (fun _ => ?_)
          refine Ife.mk (fun h4 => ?_) (fun h4 => ?_)
          · have h4 : (0 : Int) < (i2 : Int) := of_decide_eq_true (p := (0 : Int) < (i2 : Int)) h4
            refine Need.mk (by show fitStd .i64 ((i2 : Int) - 1); unfold fitStd; omega) fun _ => Need.mk (by show 0 ≤ (i2 : Int) - 1 ∧ (i2 : Int) - 1 < (nU : Int); omega) fun _ => Need.mk (by show ((i2 : Int) - 1).toNat < nU; omega) fun _ => ?_
            refine Need.mk (by show 0 ≤ (i2 : Int) ∧ (i2 : Int) < (nU : Int); omega) fun _ => Need.mk (by show (i2 : Int).toNat < nU; omega) fun _ => ?_
            have hlt : ltB (prK U ((i2 : Int) - 1).toNat) (prK U i2) = true := hUs.at (by omega) (by omega)
            refine Ife.mk (fun h5 => absurd (show (!ltB (prK U ((i2 : Int) - 1).toNat) (prK U i2)) = true from h5) (by rw [hlt]; decide)) (fun _ => ?_)
            refine Need.mk (hfit hiU) fun _ => ?_
            refine ⟨⟨i2 + 1, by omega⟩, [0, 1, 2, 3, 4, 5], (by show nU - (i2 + 1) < nU - i2; omega), ?_⟩
            refine ⟨rfl, (by show List.Nodup [0, 1, 2, 3, 4, 5]; decide), ?_, ?_⟩ <;> repeat' (first | exact trivial | exact hR1 | exact hR2 | exact hR3 | exact hR4 | exact hA1 | exact hA2 | exact hB1 | exact hB2 | exact rfl | apply And.intro | exact (fun _ _ _ _ => Cell.le_refl _) | (intro i hi; rfl) | (intro i hi; exact absurd hi (Nat.not_lt_zero _)))
          · refine Need.mk (hfit hiU) fun _ => ?_
            refine ⟨⟨i2 + 1, by omega⟩, [0, 1, 2, 3, 4, 5], (by show nU - (i2 + 1) < nU - i2; omega), ?_⟩
            refine ⟨rfl, (by show List.Nodup [0, 1, 2, 3, 4, 5]; decide), ?_, ?_⟩ <;> repeat' (first | exact trivial | exact hR1 | exact hR2 | exact hR3 | exact hR4 | exact hA1 | exact hA2 | exact hB1 | exact hB2 | exact rfl | apply And.intro | exact (fun _ _ _ _ => Cell.le_refl _) | (intro i hi; rfl) | (intro i hi; exact absurd hi (Nat.not_lt_zero _)))
        show Runs Try.prog 1 (.loop _) _ _
        refine loop_ruleR (N := env (lft Try.prog 1) 0 .std tbU [(8, appFn [] [] sFirst12), (9, appFn [] [(30, 2)] sRise), (10, appFn [] [] sNewS), (11, appFn [] [] sSet), (12, appFn [] [] sUnder), (13, appFn [] [] sLen)] [(12, [(2003, false), (2004, false), (0, true), (1, true), (2, true), (3, true), (4, true), (5, true), (6, true), (7, true), (8, true), (9, true), (10, true), (11, false)]), (17, [(0, true), (1, true), (2, true), (3, true), (4, true), (5, true), (6, true), (7, true), (8, true), (9, true), (10, true), (11, true), (12, true), (13, true), (14, true), (15, true), (16, true), (17, true), (18, true), (19, true), (20, true), (21, true), (22, true), (23, true), (24, true), (25, true), (26, true), (27, true), (28, true), (29, true), (30, true), (31, true), (32, true), (33, true), (34, true), (35, true), (36, true), (37, true), (38, true)])]) rfl tbU_ok hC (fun c st K _ h => h) (by kernel_rfl) [] (X := LU3 R f N)
          (S := fun x => ⟨[.c (.row 2), .c (.str f), .any, .any, .any, .c (.ptr 3 0), .any, .c (.row 5), .c (.int .i64 (x.c : Int)), .any, .c (.int .i64 (x.i : Int))] ++ List.replicate 129 .any, [.elems 30 2 n (prG L), .dead, .row 30 2 N (prG R), .cells 77 [.row 4], .row 33 2 N (prG R), .row 33 2 nU (prG U)]⟩) (μ := fun x => N - x.i) ⟨0, 0, Nat.zero_le _, rfl⟩ (by kernel_rfl) [0, 1, 2, 3, 4, 5] ?h03 ?rd3
        case h03 =>
          refine ⟨rfl, by decide, ?_, ?_⟩ <;> repeat' (first | exact trivial | exact hR1 | exact hR2 | exact hR3 | exact hR4 | exact hA1 | exact hA2 | exact hB1 | exact hB2 | exact rfl | apply And.intro | exact (fun _ _ _ _ => Cell.le_refl _) | (intro i hi; rfl) | (intro i hi; exact absurd hi (Nat.not_lt_zero _)))
        case rd3 =>
          rintro ⟨i3, c, hi3, hc⟩
          unfold sFirst12 sRise sNewS sSet sUnder sLen
          generalize hg0 : (List.length : List PP → Nat) = g0
          generalize hg1 : (List.length : List UInt8 → Nat) = g1
          generalize hL : lft Try.prog _ = L
          try dsimp only
          try unfold prG
          generalize ho0 : @prK = zo0, ho1 : @prV = zo1, ho2 : @prL = zo2, ho3 : @ltB = zo3, ho4 : @szB = zo4, ho5 : @putS = zo5, ho6 : @underL = zo6, ho7 : @preB = zo7, ho8 : @prPre = zo8, ho9 : @prPreR = zo9, ho10 : @riseL = zo10, ho11 : @lawPreU = zo11
          generalize hA : Arith.std = A
          cbv
          subst hA hg0 hg1 hL ho0 ho1 ho2 ho3 ho4 ho5 ho6 ho7 ho8 ho9 ho10 ho11
          have hfit : i3 < N → fitStd .i64 ((i3 : Int) + 1) := fun _ => by unfold fitStd; omega
          have hcl : c ≤ i3 := by rw [hc]; exact cnt_le
          refine Ife.mk (fun h => ?_) (fun h => ?_)
          · have h : (i3 : Int) < (N : Int) := of_decide_eq_true (p := (i3 : Int) < (N : Int)) h
            have hiN3 : i3 < N := Int.ofNat_lt.mp h
            have hcs := cnt_succ (R := R) (f := f) (i := i3) (by omega)
            rw [← hc] at hcs
            refine Need.mk (by show 0 ≤ (i3 : Int) ∧ (i3 : Int) < (N : Int); omega) fun _ => Need.mk (by show (i3 : Int).toNat < N; omega) fun _ => ?_
            refine Ife.mk (fun h2 => ?_) (fun h2 => ?_)
            · have h2 : (f.length : Int) ≤ ((prK R i3).length : Int) := of_decide_eq_true (p := (f.length : Int) ≤ ((prK R i3).length : Int)) h2
              have h2n : f.length ≤ (prK R i3).length := Int.ofNat_le.mp h2
              refine Need.mk (by show 0 ≤ (i3 : Int) ∧ (i3 : Int) < (N : Int); omega) fun _ => Need.mk (by show (i3 : Int).toNat < N; omega) fun _ => Need.mk (by show (0 : Int) ≤ 0 ∧ (0 : Int) ≤ (f.length : Int) ∧ (f.length : Int) ≤ ((prK R i3).length : Int); omega) fun _ => ?_
              refine Ife.mk (fun h3 => ?_) (fun h3 => ?_)
              · have h3 : decide ((prK R i3).take f.length = f) = true := h3
                have hpb : preB f (prK R i3) = true := by unfold preB; rw [h3, decide_eq_true h2n]; rfl
                rw [if_pos hpb] at hcs
                refine Need.mk (by show fitStd .i64 ((c : Int) + 1); unfold fitStd; omega) fun _ => Need.mk (hfit hiN3) fun _ => ?_
                refine ⟨⟨i3 + 1, c + 1, by omega, hcs.symm⟩, [0, 1, 2, 3, 4, 5], (by show N - (i3 + 1) < N - i3; omega), ?_⟩
                refine ⟨rfl, (by show List.Nodup [0, 1, 2, 3, 4, 5]; decide), ?_, ?_⟩ <;> repeat' (first | exact trivial | exact hR1 | exact hR2 | exact hR3 | exact hR4 | exact hA1 | exact hA2 | exact hB1 | exact hB2 | exact rfl | apply And.intro | exact (fun _ _ _ _ => Cell.le_refl _) | (intro i hi; rfl) | (intro i hi; exact absurd hi (Nat.not_lt_zero _)))
              · have h3 : decide ((prK R i3).take f.length = f) = false := h3
                have hpb : ¬ preB f (prK R i3) = true := by unfold preB; rw [h3]; simp
                rw [if_neg hpb] at hcs
                refine Need.mk (hfit hiN3) fun _ => ?_
                refine ⟨⟨i3 + 1, c, by omega, hcs.symm⟩, [0, 1, 2, 3, 4, 5], (by show N - (i3 + 1) < N - i3; omega), ?_⟩
                refine ⟨rfl, (by show List.Nodup [0, 1, 2, 3, 4, 5]; decide), ?_, ?_⟩ <;> repeat' (first | exact trivial | exact hR1 | exact hR2 | exact hR3 | exact hR4 | exact hA1 | exact hA2 | exact hB1 | exact hB2 | exact rfl | apply And.intro | exact (fun _ _ _ _ => Cell.le_refl _) | (intro i hi; rfl) | (intro i hi; exact absurd hi (Nat.not_lt_zero _)))
            · have h2 : ¬ (f.length : Int) ≤ ((prK R i3).length : Int) := of_decide_eq_false (p := (f.length : Int) ≤ ((prK R i3).length : Int)) h2
              have h2n : ¬ f.length ≤ (prK R i3).length := fun q => h2 (Int.ofNat_le.mpr q)
              have hpb : ¬ preB f (prK R i3) = true := by unfold preB; rw [decide_eq_false h2n]; simp
              rw [if_neg hpb] at hcs
              refine Need.mk (hfit hiN3) fun _ => ?_
              refine ⟨⟨i3 + 1, c, by omega, hcs.symm⟩, [0, 1, 2, 3, 4, 5], (by show N - (i3 + 1) < N - i3; omega), ?_⟩
              refine ⟨rfl, (by show List.Nodup [0, 1, 2, 3, 4, 5]; decide), ?_, ?_⟩ <;> repeat' (first | exact trivial | exact hR1 | exact hR2 | exact hR3 | exact hR4 | exact hA1 | exact hA2 | exact hB1 | exact hB2 | exact rfl | apply And.intro | exact (fun _ _ _ _ => Cell.le_refl _) | (intro i hi; rfl) | (intro i hi; exact absurd hi (Nat.not_lt_zero _)))
          · have h : ¬ (i3 : Int) < (N : Int) := of_decide_eq_false (p := (i3 : Int) < (N : Int)) h
            have hi3N : i3 = N := by omega
            have hcU : nU = c := by rw [hc, hi3N, hUC]
            have eN : prL N (prG R) = R := by rw [← hN]; exact prL_prG R
            have hPR : prPre 33 2 N (prG R) := ⟨rfl, rfl, prAt_prG _ R, by omega⟩
            refine Ife.mk (fun _ => ?_) (fun h4 => absurd (of_decide_eq_false (p := (nU : Int) = (c : Int)) h4) (by rw [hcU]; simp))
            refine Need.mk ⟨hPR, by show StS (prL N (prG R)); rw [eN]; exact hRs⟩ fun _ => ?_
            refine Need.mk (by rw [eN]; exact hPR) fun _ => ?_
            refine Ife.mk (fun _ => ?_) (fun h4 => absurd (of_decide_eq_false (p := ((underL (prL N (prG R)) []).length : Int) = (N : Int)) h4) (by rw [eN, under_nil, hN]; simp))
            refine Need.mk (by rw [eN, eN]; exact hPR) fun _ => ?_
            have hT : decide ((N : Int) = (N : Int)) = true := by simp
            exact ⟨[0], ⟨rfl, (by repeat' (first | exact trivial | exact hT | exact rfl | apply And.intro)), (by show List.Nodup []; exact List.nodup_nil), rfl, by repeat' (first | exact trivial | exact hR1 | exact hR2 | exact hR3 | exact hR4 | exact hA1 | exact hA2 | exact hB1 | exact hB2 | exact rfl | apply And.intro | exact (fun _ _ _ _ => Cell.le_refl _) | (intro i hi; rfl) | (intro i hi; exact absurd hi (Nat.not_lt_zero _)))⟩⟩

end Go.Proofs.Ythomoliklfmnkaa.Vx
namespace Go.Proofs.Ythomoliklfmnkaa
open Go.RowKit
set_option linter.unusedVariables false
theorem storeUnderWalk (w : World) (p : Option Addr) (cap : Nat) (ls : List Vx.PP) (hs : SlIn w p 2 cap (ls.map Vx.prVals)) (s : ByteArray) (hs2 : s.size ≤ maxLen) :
    Calls Try.prog 3 #[.slice p ls.length cap, .string s] w fun e w' => e = .returned (.bool true) ∧ Below w.heap.size w w' := by
  obtain ⟨b, rfl, hl⟩ := bytesOf s hs2
  obtain ⟨q, hq, gd⟩ := prs_good hs
  rw [← hq]
  refine Calls.mono (Vx.storeUnderP.run [.c (.row 0), .c (.str b)] [.elems 30 2 ls.length (Vx.prG ls)] _ _ _ rfl ⟨rfl, rfl, Vx.prAt_prG _ _⟩ [q] w _ (Vx.Rel.addV (Vx.Rel.refl w) 30 gd)
    ⟨_, _, rfl, (by obtain ⟨a', cap', e, _⟩ := gd.sl; simp [Vx.SV.is, Vx.CV.den, e, Vx.one] : Vx.SV.is [q] (.c (.row 0)) q.v), _, _, rfl, rfl, rfl⟩) fun e W' he => ?_
  obtain ⟨u, ρ', rfl, hu, hr⟩ := he
  obtain rfl : .bool true = u := Option.some.inj hu
  exact ⟨rfl, Vx.Rel.toBelow hr⟩
end Go.Proofs.Ythomoliklfmnkaa
end
