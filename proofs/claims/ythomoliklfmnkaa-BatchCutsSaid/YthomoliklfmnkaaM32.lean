/- ligref22.Cut, by the walker. -/
import Derived.Test.YthomoliklfmnkaaM31
section
namespace Go.Proofs.Ythomoliklfmnkaa.Vx
open Go.RowKit
set_option linter.unusedVariables false
set_option linter.unusedSimpArgs false
/-- One place more. -/
def rstep (F : List PMsg → Bool) (m : Int → PMsg) (s : List (List Int) × List Int × List PMsg) (r : Int) : List (List Int) × List Int × List PMsg :=
  if s.2.1 ≠ [] ∧ F (s.2.2 ++ [m r]) = false then (s.1 ++ [s.2.1], [r], [m r]) else (s.1, s.2.1 ++ [r], s.2.2 ++ [m r])
def rfin (s : List (List Int) × List Int × List PMsg) : List (List Int) := if s.2.1 = [] then s.1 else s.1 ++ [s.2.1]
theorem rgo_fold (F : List PMsg → Bool) (m : Int → PMsg) : ∀ (rs : List Int) (T : List (List Int)) (now : List Int) (cur : List PMsg), rgo F m T now cur rs = rfin (rs.foldl (rstep F m) (T, now, cur))
  | [], T, now, cur => rfl
  | r :: rs, T, now, cur => by
    rw [List.foldl_cons]
    unfold rgo
    split
    · rename_i h
      rw [rgo_fold F m rs, show rstep F m (T, now, cur) r = (T ++ [now], [r], [m r]) from if_pos h]
    · rename_i h
      rw [rgo_fold F m rs, show rstep F m (T, now, cur) r = (T, now ++ [r], cur ++ [m r]) from if_neg h]
theorem cutT_fold {g b c : Int} {U M : List PMsg} {gs : List Int} : cutT g b c U M gs = rfin ((skOf g b c U M gs).rest.foldl (rstep (fitsM g b c) (placeM M)) ([], [], U)) := rgo_fold _ _ _ _ _ _
theorem fold_snoc {α β : Type} (f : β → α → β) (l : List α) (x : α) (s : β) : (l ++ [x]).foldl f s = f (l.foldl f s) x := by rw [List.foldl_append]; rfl
theorem push_new {T : List (List Int)} {na n ty : Nat} {g : Nat → List CV} : newR (na + 1) 1 (pushC na (txG T) [.es true ty 1 n g]) := fun i j hi hj => by
  have hj0 : j = 0 := by omega
  subst hj0
  unfold pushC
  cases Nat.blt i na <;> rfl
/-- The document's loop. -/
structure LCu (F : List PMsg → Bool) (m : Int → PMsg) (U : List PMsg) (FW : Nat → Bool) (G : Nat → Int) (n : Nat) where
  k : Nat
  lg : List Int
  lost : List Int
  rest : List Int
  T : List (List Int)
  now : List Int
  cur : List PMsg
  na : Nat
  nl : Nat
  nT : Nat
  nn : Nat
  nc : Nat
  h1 : k ≤ n
  hs : skip FW G k = ⟨lg, lost, rest⟩
  hr : rest.foldl (rstep F m) ([], [], U) = (T, now, cur)
  ok : ∀ x ∈ cur, MsgOk x
  ha : na = lg.length
  hl : nl = lost.length
  hT : nT = T.length
  hn : nn = now.length
  hc : cur.length = nc
  bT : nT ≤ k
  bn : nn ≤ k
  bc : nc ≤ k + 1
/-- Was the group lost? -/
structure LIl (lg : List Int) (g : Int) (o0 : Bool) (na : Nat) where
  q : Nat
  b : Bool
  h1 : q ≤ na
  hb : b = (o0 || (decide (0 < g) && decide (g ∈ lg.take q)))
theorem lost_succ {lg : List Int} {g : Int} {o0 b : Bool} {q : Nat} (h : q < lg.length) (hb : b = (o0 || (decide (0 < g) && decide (g ∈ lg.take q)))) : (o0 || (decide (0 < g) && decide (g ∈ lg.take (q + 1)))) = (b || (decide (0 < g) && decide (iA lg q = g))) := by
  rw [mem_take_succ h, hb]
  cases o0 <;> cases decide (0 < g) <;> cases decide (g ∈ lg.take q) <;> rfl
set_option maxRecDepth 100000 in
set_option maxHeartbeats 32000000 in
theorem rcutP : Fn Try.prog 17 [] [(60, 250), (60, 250), (3, 1)] sCut := by
  have hC : CtsOk Try.prog [(36, appWith1), (37, appWith), (21, appFn [] [(60, 250)] sFits)] := CtsOk.cons (with1Ct) <| CtsOk.cons (withCt) <| CtsOk.cons (Fn.ct rfitsP) <| CtsOk.nil _
  refine Fn.ofRZ (E := tbB) tbB_ok Try.func17 rfl rfl rfl (by kernel_rfl) 3 (.orow 39 1 0 (txG [])) rfl ?_ ?_
  · intro args h pre r h' hs
    unfold sCut at hs
    split at hs
    · cases hs; exact ⟨rfl, rfl, Nat.le_of_ble_eq_true rfl⟩
    · cases hs
  · intro args h pre r h' hs hp
    unfold sCut at hs
    split at hs
    rotate_left
    · cases hs
    rename_i g b c ty sz n get ty' sz' n' get' it one n2 get2
    cases hs
    obtain ⟨⟨rfl, rfl, hst, hok, hm⟩, ⟨rfl, rfl, hst', hok', hm'⟩, ⟨rfl, rfl, hin, hi2⟩, hn1, hn2⟩ := hp
    refine ⟨[.data false 60 50 n (msgG false (msgsL n get)), .data false 60 50 n' (msgG false (msgsL n' get')), .elems 3 1 n2 (inG (iL n2 get2))], ⟨⟨rfl, rfl, rfl, rfl, fun i j hi hj => by rw [hst i j hi hj]; exact Cell.le_refl _⟩, ⟨rfl, rfl, rfl, rfl, fun i j hi hj => by rw [hst' i j hi hj]; exact Cell.le_refl _⟩, ⟨rfl, rfl, rfl, fun i hi => by rw [← hin.eq hi]⟩, trivial⟩, ?_⟩
    have hL : (msgsL n get).length = n := msgsL_len
    have hL' : (msgsL n' get').length = n' := msgsL_len
    have hZ : (iL n2 get2).length = n2 := iL_len
    generalize msgsL n get = L at *
    generalize msgsL n' get' = K at *
    generalize iL n2 get2 = Z at *
    clear hst hst' hin
    have ho := gM_all hok zeroMsg_ok
    have ho' := gM_all hok' zeroMsg_ok
    have hn0 : (min (n : Int) 1 - 0).toNat ≤ n ∧ (min (n : Int) 1 - 0).toNat ≤ 1 := by omega
    have hU := IsMs.take hL hn0.1
    have hU1 : L.take (min (n : Int) 1 - 0).toNat = L.take 1 := by
      rcases (by omega : n = 0 ∨ (min (n : Int) 1 - 0).toNat = 1) with h | h
      · have : L = [] := List.eq_nil_of_length_eq_zero (by omega)
        rw [this]; simp
      · rw [h]
    rw [hU1] at hU
    obtain ⟨U, hUd⟩ : ∃ U, U = L.take 1 := ⟨_, rfl⟩
    rw [← hUd] at hU
    rw [show oneM L = U from hUd.symm]
    have hokU : ∀ x ∈ U, MsgOk x := fun x hx => hok x (List.mem_of_mem_take (hUd ▸ hx))
    have hUl : U.length = (min (n : Int) 1 - 0).toNat := hU.1
    obtain ⟨nu, hnu⟩ : ∃ nu, U.length = nu := ⟨_, rfl⟩
    have hnu1 : nu ≤ 1 := by omega
    have hUn : (min (n : Int) 1 - 0).toNat = nu := by omega
    have hUe : ∀ i j, i < nu → j < 50 → Cell.le (msgG false L (0 + i) j) (msgG false U i j) := fun i j hi hj => by
      have h := hU.2 i j (hUn.symm ▸ hi) hj
      rw [show (msgG false L (0 + i) j).old = msgG false L (0 + i) j from msgG_old] at h
      show Cell.le (msgG false L (0 + i) j) _
      rw [h]
      exact Cell.le_refl _
    rw [cutT_fold]
    have hS : skOf g b c U K Z = skip (fitsWith g b c U K) (groupOf n' Z) n' := by unfold skOf; rw [hL']
    rw [hS]
    refine Runs.cutT ⟨[.any, .c (.row 0), .c (.row 1), .c (.row 2), .c (.ptr 3 0)] ++ List.replicate 111 .any, [.data false 60 50 n (msgG false L), .data false 60 50 n' (msgG false K), .elems 3 1 n2 (inG Z), .cells 37 [.int .i64 g, .int .i64 b, .int .i64 c]]⟩ ?_ ?_
    · refine exec_ok (N := env (lft Try.prog 3) 0 .std tbB [(36, appWith1), (37, appWith), (21, appFn [] [(60, 250)] sFits)] [(11, [(0, true), (1, true), (2, true), (3, true), (4, true), (5, false), (6, false), (7, false), (8, true), (9, true)]), (19, [(0, true), (1, true), (2, true), (3, true), (4, true), (5, true), (6, true), (7, true), (8, true), (9, false), (10, false), (11, false), (12, true), (13, true)])]) rfl tbB_ok hC (fun c st K _ h => h) (by kernel_rfl) [] _ _ _ (by kernel_rfl) ?_
      unfold sFits
      generalize hg0 : (List.length : List UInt8 → Nat) = g0
      generalize hL : lft Try.prog _ = L
      try unfold leafG
      try unfold msgCl
      try unfold msgG
      try unfold msgC
      try unfold inG
      generalize ho0 : @lK = zo0, ho1 : @lV = zo1, ho2 : @lI = zo2, ho3 : @lP = zo3, ho4 : @lN = zo4, ho5 : @pG = zo5, ho6 : @rN = zo6, ho7 : @lenL = zo7, ho8 : @gM = zo8, ho9 : @msgsL = zo9, ho10 : @msgsPre = zo10, ho11 : @fitsM = zo11, ho12 : @skip = zo12, ho13 : @skStep = zo13, ho14 : @skOut = zo14, ho15 : @skPre = zo15, ho16 : @groupOf = zo16, ho17 : @iA = zo17, ho18 : @iL = zo18, ho19 : @pushC = zo19, ho20 : @inPre = zo20, ho21 : @placeM = zo21, ho22 : @skOf = zo22, ho23 : @cutT = zo23, ho24 : @oneM = zo24, ho25 : @txG = zo25, ho26 : @rstep = zo26, ho27 : @rfin = zo27
      generalize hA : Arith.std = A
      cbv
      subst hA hg0 hL ho0 ho1 ho2 ho3 ho4 ho5 ho6 ho7 ho8 ho9 ho10 ho11 ho12 ho13 ho14 ho15 ho16 ho17 ho18 ho19 ho20 ho21 ho22 ho23 ho24 ho25 ho26 ho27
      try simp only [← mpGet.eq_def, ← mpSet.eq_def]
      exact StT.ofL (σ := [0, 1, 2, 3]) ⟨rfl, by show List.Nodup [3]; decide, by repeat' (first | exact trivial | exact rfl | apply And.intro | exact (fun _ _ _ _ => Cell.le_refl _) | (intro i hi; rfl) | (intro i hi; exact absurd hi (Nat.not_lt_zero _))), by repeat' (first | exact trivial | exact rfl | apply And.intro | exact (fun _ _ _ _ => Cell.le_refl _) | (intro i hi; rfl) | (intro i hi; exact absurd hi (Nat.not_lt_zero _)))⟩
    refine Runs.cutT ⟨[.any, .c (.row 4), .c (.row 1), .c (.row 2), .c (.ptr 3 0)] ++ List.replicate 111 .any, [.data false 60 50 n (msgG false L), .data false 60 50 n' (msgG false K), .elems 3 1 n2 (inG Z), .cells 37 [.int .i64 g, .int .i64 b, .int .i64 c], .data false 60 50 nu (msgG false U)]⟩ ?_ ?_
    · refine exec_ok (N := env (lft Try.prog 3) 0 .std tbB [(36, appWith1), (37, appWith), (21, appFn [] [(60, 250)] sFits)] [(11, [(0, true), (1, true), (2, true), (3, true), (4, true), (5, false), (6, false), (7, false), (8, true), (9, true)]), (19, [(0, true), (1, true), (2, true), (3, true), (4, true), (5, true), (6, true), (7, true), (8, true), (9, false), (10, false), (11, false), (12, true), (13, true)])]) rfl tbB_ok hC (fun c st K _ h => h) (by kernel_rfl) [] _ _ _ (by kernel_rfl) ?_
      unfold sFits
      generalize hg0 : (List.length : List UInt8 → Nat) = g0
      generalize hL : lft Try.prog _ = L
      try unfold leafG
      try unfold msgCl
      try unfold msgG
      try unfold msgC
      try unfold inG
      generalize ho0 : @lK = zo0, ho1 : @lV = zo1, ho2 : @lI = zo2, ho3 : @lP = zo3, ho4 : @lN = zo4, ho5 : @pG = zo5, ho6 : @rN = zo6, ho7 : @lenL = zo7, ho8 : @gM = zo8, ho9 : @msgsL = zo9, ho10 : @msgsPre = zo10, ho11 : @fitsM = zo11, ho12 : @skip = zo12, ho13 : @skStep = zo13, ho14 : @skOut = zo14, ho15 : @skPre = zo15, ho16 : @groupOf = zo16, ho17 : @iA = zo17, ho18 : @iL = zo18, ho19 : @pushC = zo19, ho20 : @inPre = zo20, ho21 : @placeM = zo21, ho22 : @skOf = zo22, ho23 : @cutT = zo23, ho24 : @oneM = zo24, ho25 : @txG = zo25, ho26 : @rstep = zo26, ho27 : @rfin = zo27
      generalize hA : Arith.std = A
      cbv
      subst hA hg0 hL ho0 ho1 ho2 ho3 ho4 ho5 ho6 ho7 ho8 ho9 ho10 ho11 ho12 ho13 ho14 ho15 ho16 ho17 ho18 ho19 ho20 ho21 ho22 ho23 ho24 ho25 ho26 ho27
      try simp only [← mpGet.eq_def, ← mpSet.eq_def]
      refine Need.mk (show (0 : Int) ≤ 0 ∧ (0 : Int) ≤ min (n : Int) 1 ∧ min (n : Int) 1 ≤ (n : Int) by omega) fun _ => ?_
      exact StT.trans (StT.part (d := 1) rfl rfl) (StT.ofL (σ := [0, 1, 2, 3, 4]) ⟨rfl, by show List.Nodup [3]; decide, by repeat' (first | exact trivial | exact hUn | exact hUe | exact rfl | apply And.intro | exact (fun _ _ _ _ => Cell.le_refl _) | (intro i hi; rfl) | (intro i hi; exact absurd hi (Nat.not_lt_zero _))), by repeat' (first | exact trivial | exact hUn | exact hUe | exact rfl | apply And.intro | exact (fun _ _ _ _ => Cell.le_refl _) | (intro i hi; rfl) | (intro i hi; exact absurd hi (Nat.not_lt_zero _)))⟩)
    refine exec_ok (N := env (lft Try.prog 3) 0 .std tbB [(36, appWith1), (37, appWith), (21, appFn [] [(60, 250)] sFits)] [(11, [(0, true), (1, true), (2, true), (3, true), (4, true), (5, false), (6, false), (7, false), (8, true), (9, true)]), (19, [(0, true), (1, true), (2, true), (3, true), (4, true), (5, true), (6, true), (7, true), (8, true), (9, false), (10, false), (11, false), (12, true), (13, true)])]) rfl tbB_ok hC (fun c st K _ h => h) (by kernel_rfl) [] _ _ _ (by kernel_rfl) ?_
    unfold sFits
    generalize hg0 : (List.length : List UInt8 → Nat) = g0
    generalize hL : lft Try.prog _ = L
    try unfold leafG
    try unfold msgCl
    try unfold msgG
    try unfold msgC
    try unfold inG
    generalize ho0 : @lK = zo0, ho1 : @lV = zo1, ho2 : @lI = zo2, ho3 : @lP = zo3, ho4 : @lN = zo4, ho5 : @pG = zo5, ho6 : @rN = zo6, ho7 : @lenL = zo7, ho8 : @gM = zo8, ho9 : @msgsL = zo9, ho10 : @msgsPre = zo10, ho11 : @fitsM = zo11, ho12 : @skip = zo12, ho13 : @skStep = zo13, ho14 : @skOut = zo14, ho15 : @skPre = zo15, ho16 : @groupOf = zo16, ho17 : @iA = zo17, ho18 : @iL = zo18, ho19 : @pushC = zo19, ho20 : @inPre = zo20, ho21 : @placeM = zo21, ho22 : @skOf = zo22, ho23 : @cutT = zo23, ho24 : @oneM = zo24, ho25 : @txG = zo25, ho26 : @rstep = zo26, ho27 : @rfin = zo27
    generalize hA : Arith.std = A
    cbv
    subst hA hg0 hL ho0 ho1 ho2 ho3 ho4 ho5 ho6 ho7 ho8 ho9 ho10 ho11 ho12 ho13 ho14 ho15 ho16 ho17 ho18 ho19 ho20 ho21 ho22 ho23 ho24 ho25 ho26 ho27
    try simp only [← mpGet.eq_def, ← mpSet.eq_def]
    refine Need.mk (show nu ≤ 1000000 by omega) fun _ => ?_
    show Runs Try.prog 3 (.loop _) _ _
    refine loop_ruleE (N := env (lft Try.prog 3) 0 .std tbB [(36, appWith1), (37, appWith), (21, appFn [] [(60, 250)] sFits)] [(11, [(0, true), (1, true), (2, true), (3, true), (4, true), (5, false), (6, false), (7, false), (8, true), (9, true)]), (19, [(0, true), (1, true), (2, true), (3, true), (4, true), (5, true), (6, true), (7, true), (8, true), (9, false), (10, false), (11, false), (12, true), (13, true)])]) rfl tbB_ok hC (fun c st K _ h => h) (by kernel_rfl) [] (X := LCu (fitsM g b c) (placeM K) U (fitsWith g b c U K) (groupOf n' Z) n')
      (S := fun x => ⟨[.any, .c (.row 4), .c (.row 1), .c (.row 2), .c (.ptr 3 0), .any, .any, .any, .any, .any, .c (.row 5), .c (.row 6), .c (.row 7), .c (.row 8), .c (.row 9), .c (.int .i64 (x.k : Int))] ++ List.replicate 100 .any, [.data false 60 50 n (msgG false L), .data false 60 50 n' (msgG false K), .elems 3 1 n2 (inG Z), .cells 37 [.int .i64 g, .int .i64 b, .int .i64 c], .data false 60 50 nu (msgG false U), .orow 39 1 x.nT (txG x.T), .row 3 1 x.nl (inG x.lost), .row 3 1 x.nn (inG x.now), .row 3 1 x.na (inG x.lg), .orow 60 50 x.nc (msgG false x.cur)]⟩) (μ := fun x => n' - x.k) ⟨0, [], [], [], [], [], U, 0, 0, 0, 0, nu, by omega, rfl, rfl, hokU, rfl, rfl, rfl, rfl, hnu, by omega, by omega, by omega⟩ (by kernel_rfl) ?h0 ?rd
    case h0 =>
      exact StT.trans (StT.nil (d := 10) (.orow 39 1 0 (txG [])) rfl rfl) (StT.trans (StT.nil (d := 11) (.row 3 1 0 (inG [])) rfl rfl) (StT.trans (StT.nil (d := 12) (.row 3 1 0 (inG [])) rfl rfl) (StT.trans (StT.nil (d := 13) (.row 3 1 0 (inG [])) rfl rfl) (StT.ofL (σ := [0, 1, 2, 3, 4, 6, 7, 8, 9, 5]) ⟨rfl, by show List.Nodup [3, 6, 7, 8, 9, 5]; decide, by repeat' (first | exact trivial | exact rfl | apply And.intro | exact (fun _ _ _ _ => Cell.le_refl _) | (intro i hi; rfl) | (intro i hi; exact absurd hi (Nat.not_lt_zero _))), by repeat' (first | exact trivial | exact rfl | apply And.intro | exact (fun _ _ _ _ => Cell.le_refl _) | (intro i hi; rfl) | (intro i hi; exact absurd hi (Nat.not_lt_zero _)))⟩))))
    rintro ⟨k, lg, lost, rest, T, now, cur, na, nl, nT, nn, nc, hk1, hs, hr, hokc, ha, hl, hT, hn, hc, bT, bn, bc⟩
    unfold sFits
    generalize hg0 : (List.length : List UInt8 → Nat) = g0
    generalize hL : lft Try.prog _ = L
    try dsimp only
    try unfold leafG
    try unfold msgCl
    try unfold msgG
    try unfold msgC
    try unfold inG
    generalize ho0 : @lK = zo0, ho1 : @lV = zo1, ho2 : @lI = zo2, ho3 : @lP = zo3, ho4 : @lN = zo4, ho5 : @pG = zo5, ho6 : @rN = zo6, ho7 : @lenL = zo7, ho8 : @gM = zo8, ho9 : @msgsL = zo9, ho10 : @msgsPre = zo10, ho11 : @fitsM = zo11, ho12 : @skip = zo12, ho13 : @skStep = zo13, ho14 : @skOut = zo14, ho15 : @skPre = zo15, ho16 : @groupOf = zo16, ho17 : @iA = zo17, ho18 : @iL = zo18, ho19 : @pushC = zo19, ho20 : @inPre = zo20, ho21 : @placeM = zo21, ho22 : @skOf = zo22, ho23 : @cutT = zo23, ho24 : @oneM = zo24, ho25 : @txG = zo25, ho26 : @rstep = zo26, ho27 : @rfin = zo27
    generalize hA : Arith.std = A
    cbv
    subst hA hg0 hL ho0 ho1 ho2 ho3 ho4 ho5 ho6 ho7 ho8 ho9 ho10 ho11 ho12 ho13 ho14 ho15 ho16 ho17 ho18 ho19 ho20 ho21 ho22 ho23 ho24 ho25 ho26 ho27
    try simp only [← mpGet.eq_def, ← mpSet.eq_def]
    refine Ife.mk (fun hlt => ?_) (fun hlt => ?_)
    · have hkn : k < n' := Int.ofNat_lt.mp (of_decide_eq_true (p := (k : Int) < (n' : Int)) hlt)
      clear hlt
      have hkK : k < K.length := by omega
      have hokp : ∀ m ∈ U ++ [gM K k], MsgOk m := fun m hm => by
        rcases List.mem_append.1 hm with h | h
        · exact hokU m h
        · rw [List.mem_singleton.1 h]; exact ho' k
      have hokq : ∀ m ∈ cur ++ [gM K k], MsgOk m := fun m hm => by
        rcases List.mem_append.1 hm with h | h
        · exact hokc m h
        · rw [List.mem_singleton.1 h]; exact ho' k
      have pU := IsMs.pre (L := U ++ [gM K k]) (IsMs.push (g := msgG false U) (ls := msgCl false (gM K k)) (IsMs.msg (fr := false) hnu) msgCl_old) hokp (by omega)
      have pC := IsMs.pre (L := cur ++ [gM K k]) (IsMs.push (g := msgG false cur) (ls := msgCl false (gM K k)) (IsMs.msg (fr := false) hc) msgCl_old) hokq (by omega)
      have hlen := skip_len (F := fitsWith g b c U K) (G := groupOf n' Z) k
      rw [hs] at hlen
      replace hlen : lg.length = lost.length ∧ lost.length + rest.length = k := hlen
      have hpl : placeM K (k : Int) = gM K k := rfl
      have ix : 0 ≤ (k : Int) ∧ (k : Int) < (n' : Int) := ⟨Int.natCast_nonneg k, Int.ofNat_lt.mpr hkn⟩
      refine Ife.mk (fun hn => ?_) (fun hn => ?_)
      · have hnn : n2 = n' := Int.ofNat_inj.mp (of_decide_eq_true (p := (n2 : Int) = (n' : Int)) hn)
        clear hn
        refine Need.mk (show 0 ≤ (k : Int) ∧ (k : Int) < (n2 : Int) from ⟨Int.natCast_nonneg k, Int.ofNat_lt.mpr (hnn.symm ▸ hkn)⟩) fun _ => Need.mk (show k < n2 from hnn.symm ▸ hkn) fun _ => ?_
        generalize hx : iA Z _ = gx
        replace hx : iA Z k = gx := hx
        have eG : groupOf n' Z k = gx := by
          unfold groupOf
          rw [if_pos (hZ.trans hnn), hx]
        refine Need.mk ix fun _ => Need.mk hkn fun _ => ?_
        refine Need.mk (show nu ≤ 1000000 by omega) fun _ => ?_
        refine Need.mk pU.1 fun _ => ?_
        generalize hE : fitsM g b c _ = E
        replace hE : fitsWith g b c U K k = E := (congrArg (fitsM g b c) pU.2.symm).trans hE
        show Runs Try.prog 3 (.loop _) _ _
        refine loop_ruleE (N := env (lft Try.prog 3) 0 .std tbB [(36, appWith1), (37, appWith), (21, appFn [] [(60, 250)] sFits)] [(11, [(0, true), (1, true), (2, true), (3, true), (4, true), (5, false), (6, false), (7, false), (8, true), (9, true)]), (19, [(0, true), (1, true), (2, true), (3, true), (4, true), (5, true), (6, true), (7, true), (8, true), (9, false), (10, false), (11, false), (12, true), (13, true)])]) rfl tbB_ok hC (fun c st K _ h => h) (by kernel_rfl) [] (X := LIl lg gx (!E) na)
          (S := fun x => ⟨[.any, .c (.row 4), .c (.row 1), .c (.row 2), .c (.ptr 3 0), .any, .any, .any, .any, .any, .c (.row 5), .c (.row 6), .c (.row 7), .c (.row 8), .c (.row 9), .c (.int .i64 (k : Int)), .c (.int .i64 gx), .c (.bool x.b), .c (.int .i64 (x.q : Int))] ++ List.replicate 97 .any, [.data false 60 50 n (msgG false L), .data false 60 50 n' (msgG false K), .elems 3 1 n2 (inG Z), .cells 37 [.int .i64 g, .int .i64 b, .int .i64 c], .data false 60 50 nu (msgG false U), .orow 39 1 nT (txG T), .row 3 1 nl (inG lost), .row 3 1 nn (inG now), .row 3 1 na (inG lg), .orow 60 50 nc (msgG false cur)]⟩) (μ := fun x => na - x.q) ⟨0, !E, by omega, by simp⟩ (by kernel_rfl) ?i0 ?ird
        case i0 => exact StT.ofL (σ := [0, 1, 2, 3, 4, 5, 6, 7, 8, 9]) ⟨rfl, by show List.Nodup [3, 5, 6, 7, 8, 9]; decide, by repeat' (first | exact trivial | exact rfl | apply And.intro | exact (fun _ _ _ _ => Cell.le_refl _) | (intro i hi; rfl) | (intro i hi; exact absurd hi (Nat.not_lt_zero _))), by repeat' (first | exact trivial | exact rfl | apply And.intro | exact (fun _ _ _ _ => Cell.le_refl _) | (intro i hi; rfl) | (intro i hi; exact absurd hi (Nat.not_lt_zero _)))⟩
        rintro ⟨q, b1, hq, hb⟩
        unfold sFits
        generalize hg0 : (List.length : List UInt8 → Nat) = g0
        generalize hL : lft Try.prog _ = L
        try dsimp only
        try unfold leafG
        try unfold msgCl
        try unfold msgG
        try unfold msgC
        try unfold inG
        generalize ho0 : @lK = zo0, ho1 : @lV = zo1, ho2 : @lI = zo2, ho3 : @lP = zo3, ho4 : @lN = zo4, ho5 : @pG = zo5, ho6 : @rN = zo6, ho7 : @lenL = zo7, ho8 : @gM = zo8, ho9 : @msgsL = zo9, ho10 : @msgsPre = zo10, ho11 : @fitsM = zo11, ho12 : @skip = zo12, ho13 : @skStep = zo13, ho14 : @skOut = zo14, ho15 : @skPre = zo15, ho16 : @groupOf = zo16, ho17 : @iA = zo17, ho18 : @iL = zo18, ho19 : @pushC = zo19, ho20 : @inPre = zo20, ho21 : @placeM = zo21, ho22 : @skOf = zo22, ho23 : @cutT = zo23, ho24 : @oneM = zo24, ho25 : @txG = zo25, ho26 : @rstep = zo26, ho27 : @rfin = zo27
        generalize hA : Arith.std = A
        cbv
        subst hA hg0 hL ho0 ho1 ho2 ho3 ho4 ho5 ho6 ho7 ho8 ho9 ho10 ho11 ho12 ho13 ho14 ho15 ho16 ho17 ho18 ho19 ho20 ho21 ho22 ho23 ho24 ho25 ho26 ho27
        try simp only [← mpGet.eq_def, ← mpSet.eq_def]
        refine Ife.mk (fun hql => ?_) (fun hql => ?_)
        · have hqa : q < na := Int.ofNat_lt.mp (of_decide_eq_true (p := (q : Int) < (na : Int)) hql)
          clear hql
          have hs1 := lost_succ (lg := lg) (g := gx) (o0 := !E) (b := b1) (q := q) (by omega) hb
          refine Ife.mk (fun hb1 => ?_) (fun hb1 => ?_)
          · replace hb1 : b1 = true := hb1
            subst hb1
            refine Need.mk (by show fitStd .i64 ((q : Int) + 1); unfold fitStd; omega) fun _ => ?_
            refine ⟨⟨q + 1, true, by omega, by rw [hs1]; rfl⟩, (by show na - (q + 1) < na - q; omega), ?_⟩
            exact StT.ofL (σ := [0, 1, 2, 3, 4, 5, 6, 7, 8, 9]) ⟨rfl, by show List.Nodup [3, 5, 6, 7, 8, 9]; decide, by repeat' (first | exact trivial | exact rfl | apply And.intro | exact (fun _ _ _ _ => Cell.le_refl _) | (intro i hi; rfl) | (intro i hi; exact absurd hi (Nat.not_lt_zero _))), by repeat' (first | exact trivial | exact rfl | apply And.intro | exact (fun _ _ _ _ => Cell.le_refl _) | (intro i hi; rfl) | (intro i hi; exact absurd hi (Nat.not_lt_zero _)))⟩
          · replace hb1 : b1 = false := hb1
            subst hb1
            refine Ife.mk (fun hx0 => ?_) (fun hx0 => ?_)
            · have hx0 : decide ((0 : Int) < gx) = true := hx0
              refine Need.mk (show 0 ≤ (q : Int) ∧ (q : Int) < (na : Int) from ⟨Int.natCast_nonneg q, Int.ofNat_lt.mpr hqa⟩) fun _ => Need.mk (show q < na from hqa) fun _ => ?_
              refine Need.mk (by show fitStd .i64 ((q : Int) + 1); unfold fitStd; omega) fun _ => ?_
              refine ⟨⟨q + 1, decide (iA lg q = gx), by omega, by rw [hs1, hx0]; rfl⟩, (by show na - (q + 1) < na - q; omega), ?_⟩
              exact StT.ofL (σ := [0, 1, 2, 3, 4, 5, 6, 7, 8, 9]) ⟨rfl, by show List.Nodup [3, 5, 6, 7, 8, 9]; decide, by repeat' (first | exact trivial | exact rfl | apply And.intro | exact (fun _ _ _ _ => Cell.le_refl _) | (intro i hi; rfl) | (intro i hi; exact absurd hi (Nat.not_lt_zero _))), by repeat' (first | exact trivial | exact rfl | apply And.intro | exact (fun _ _ _ _ => Cell.le_refl _) | (intro i hi; rfl) | (intro i hi; exact absurd hi (Nat.not_lt_zero _)))⟩
            · have hx0 : decide ((0 : Int) < gx) = false := hx0
              refine Need.mk (by show fitStd .i64 ((q : Int) + 1); unfold fitStd; omega) fun _ => ?_
              refine ⟨⟨q + 1, false, by omega, by rw [hs1, hx0]; rfl⟩, (by show na - (q + 1) < na - q; omega), ?_⟩
              exact StT.ofL (σ := [0, 1, 2, 3, 4, 5, 6, 7, 8, 9]) ⟨rfl, by show List.Nodup [3, 5, 6, 7, 8, 9]; decide, by repeat' (first | exact trivial | exact rfl | apply And.intro | exact (fun _ _ _ _ => Cell.le_refl _) | (intro i hi; rfl) | (intro i hi; exact absurd hi (Nat.not_lt_zero _))), by repeat' (first | exact trivial | exact rfl | apply And.intro | exact (fun _ _ _ _ => Cell.le_refl _) | (intro i hi; rfl) | (intro i hi; exact absurd hi (Nat.not_lt_zero _)))⟩
        have hqe : ¬ q < na := fun h => of_decide_eq_false (p := (q : Int) < (na : Int)) hql (Int.ofNat_lt.mpr h)
        clear hql
        rw [List.take_of_length_le (by omega)] at hb
        have ho : skOut (fitsWith g b c U K) (groupOf n' Z) lg k = b1 := by
          unfold skOut
          rw [eG, hE, hb]
          exact Bool.or_comm _ _
        refine Ife.mk (fun hb1 => ?_) (fun hb1 => ?_)
        · replace hb1 : b1 = true := hb1
          rw [hb1] at ho
          refine Need.mk (show nl + 1 ≤ maxLen ∧ (nl + 1) * 8 ≤ 140737488355328 by unfold maxLen; omega) fun _ => ?_
          refine Need.mk (show na + 1 ≤ maxLen ∧ (na + 1) * 8 ≤ 140737488355328 by unfold maxLen; omega) fun _ => ?_
          refine Need.mk (by show fitStd .i64 ((k : Int) + 1); unfold fitStd; omega) fun _ => ?_
          refine ⟨⟨k + 1, lg ++ [gx], lost ++ [(k : Int)], rest, T, now, cur, na + 1, nl + 1, nT, nn, nc, by omega, ?hs, hr, hokc, by simp [ha], by simp [hl], hT, hn, hc, by omega, by omega, by omega⟩, (by show n' - (k + 1) < n' - k; omega), ?st⟩
          case hs => rw [skip_succ, hs]; unfold skStep; rw [if_pos ho, eG]
          case st => exact StT.ofL (σ := [0, 1, 2, 3, 4, 5, 11, 7, 13, 9]) ⟨rfl, by show List.Nodup [3, 5, 11, 7, 13, 9]; decide, by repeat' (first | exact trivial | exact in_push ha | exact in_push hl | exact htx | exact hnow | exact hcur | exact rfl | apply And.intro | exact (fun _ _ _ _ => Cell.le_refl _) | (intro i hi; rfl) | (intro i hi; exact absurd hi (Nat.not_lt_zero _))), by repeat' (first | exact trivial | exact in_push ha | exact in_push hl | exact htx | exact hnow | exact hcur | exact rfl | apply And.intro | exact (fun _ _ _ _ => Cell.le_refl _) | (intro i hi; rfl) | (intro i hi; exact absurd hi (Nat.not_lt_zero _)))⟩
        replace hb1 : b1 = false := hb1
        rw [hb1] at ho
        have hs2 : skip (fitsWith g b c U K) (groupOf n' Z) (k + 1) = ⟨lg, lost, rest ++ [(k : Int)]⟩ := by
          rw [skip_succ, hs]
          unfold skStep
          rw [if_neg (by rw [ho]; decide)]
        have hr2 : (rest ++ [(k : Int)]).foldl (rstep (fitsM g b c) (placeM K)) ([], [], U) = rstep (fitsM g b c) (placeM K) (T, now, cur) (k : Int) := by rw [fold_snoc, hr]
        refine Ife.mk (fun hn0 => ?_) (fun hn0 => ?_)
        · have hnn0 : 0 < nn := Int.natCast_pos.1 (of_decide_eq_true (p := (0 : Int) < (nn : Int)) hn0)
          have hne : now ≠ [] := fun h => by rw [h] at hn; simp at hn; omega
          refine Need.mk ix fun _ => Need.mk hkn fun _ => ?_
          refine Need.mk (show nc ≤ 1000000 by omega) fun _ => ?_
          refine Need.mk pC.1 fun _ => ?_
          generalize hE2 : fitsM g b c _ = E2
          replace hE2 : fitsM g b c (cur ++ [gM K k]) = E2 := (congrArg (fitsM g b c) pC.2.symm).trans hE2
          refine Ife.mk (fun hf => ?_) (fun hf => ?_)
          · replace hf : E2 = false := by simpa [Arith.std] using hf
            rw [hf] at hE2
            refine Need.mk ⟨show nT + 1 ≤ maxLen ∧ (nT + 1) * 24 ≤ 140737488355328 by unfold maxLen; omega, trivial⟩ fun _ => ?_
            refine Need.mk ⟨(by show 0 + 0 ≤ maxLen ∧ (0 + 0) * 8 ≤ 140737488355328; unfold maxLen; omega), fun i hi => absurd hi (Nat.not_lt_zero _)⟩ fun _ => ?_
            refine Need.mk (show 0 + 1 ≤ maxLen ∧ (0 + 1) * 8 ≤ 140737488355328 by unfold maxLen; omega) fun _ => ?_
            refine Need.mk ix fun _ => Need.mk hkn fun _ => Need.mk trivial fun _ => ?_
            refine Need.mk (by show fitStd .i64 ((k : Int) + 1); unfold fitStd; omega) fun _ => ?_
            refine ⟨⟨k + 1, lg, lost, rest ++ [(k : Int)], T ++ [now], [(k : Int)], [gM K k], na, nl, nT + 1, 1, 1, by omega, hs2, ?hr, fun x hx => by rw [List.mem_singleton.1 hx]; exact ho' k, ha, hl, by simp [hT], rfl, rfl, by omega, by omega, by omega⟩, (by show n' - (k + 1) < n' - k; omega), ?st⟩
            case hr => rw [hr2]; unfold rstep; rw [if_pos ⟨hne, hE2⟩]; rfl
            case st =>
              have htx : ∀ i j, i < nT + 1 → j < 1 → Cell.le (pushC nT (txG T) [.es true 3 1 nn (inG now)] i j) (txG (T ++ [now]) i j) := txG_push hT hn fun i hi => rfl
              have hnow : ∀ i, i < 0 + 1 → pushG 0 (fun _ => []) [.int .i64 (k : Int)] i = inG [(k : Int)] i := fun i hi => by
                have : i = 0 := by omega
                subst this
                rfl
              have hcur : ∀ i j, i < 0 + 1 → j < 50 → Cell.le (pushC 0 (fun _ _ => Cell.pl .tt) (msgCl false (gM K k)) i j) (msgG false [gM K k] i j) := fun i j hi hj => by
                have : i = 0 := by omega
                subst this
                exact Cell.le_refl _
              exact StT.ofL (σ := [0, 1, 2, 3, 4, 18, 6, 21, 8, 28]) ⟨rfl, by show List.Nodup [3, 18, 6, 21, 8, 28]; decide, by repeat' (first | exact trivial | exact in_push ha | exact in_push hl | exact htx | exact hnow | exact hcur | exact rfl | apply And.intro | exact (fun _ _ _ _ => Cell.le_refl _) | (intro i hi; rfl) | (intro i hi; exact absurd hi (Nat.not_lt_zero _))), by repeat' (first | exact trivial | exact in_push ha | exact in_push hl | exact htx | exact hnow | exact hcur | exact rfl | apply And.intro | exact (fun _ _ _ _ => Cell.le_refl _) | (intro i hi; rfl) | (intro i hi; exact absurd hi (Nat.not_lt_zero _)))⟩
          · replace hf : E2 = true := by simpa [Arith.std] using hf
            rw [hf] at hE2
            have hst : rstep (fitsM g b c) (placeM K) (T, now, cur) (k : Int) = (T, now ++ [(k : Int)], cur ++ [gM K k]) := by
              unfold rstep
              rw [if_neg (fun h => by have h2 := h.2; rw [hpl] at h2; rw [hE2] at h2; cases h2), hpl]
            refine Need.mk ⟨(by show 0 + nn ≤ maxLen ∧ (0 + nn) * 8 ≤ 140737488355328; unfold maxLen; omega), fun i hi => rfl⟩ fun _ => ?_
            refine Need.mk (show nn + 1 ≤ maxLen ∧ (nn + 1) * 8 ≤ 140737488355328 by unfold maxLen; omega) fun _ => ?_
            refine Need.mk ix fun _ => Need.mk hkn fun _ => Need.mk (show nc ≤ 1000000 by omega) fun _ => ?_
            refine Need.mk (by show fitStd .i64 ((k : Int) + 1); unfold fitStd; omega) fun _ => ?_
            refine ⟨⟨k + 1, lg, lost, rest ++ [(k : Int)], T, now ++ [(k : Int)], cur ++ [gM K k], na, nl, nT, nn + 1, nc + 1, by omega, hs2, hr2.trans hst, hokq, ha, hl, hT, by simp [hn], by simp [hc], by omega, by omega, by omega⟩, (by show n' - (k + 1) < n' - k; omega), ?st⟩
            case st =>
              have htx : True := trivial
              have hnow := in_push (x := (k : Int)) hn
              have hcur := pushC_le (fr := false) (x := gM K k) hc rfl
              exact StT.ofL (σ := [0, 1, 2, 3, 4, 5, 6, 19, 8, 25]) ⟨rfl, by show List.Nodup [3, 5, 6, 19, 8, 25]; decide, by repeat' (first | exact trivial | exact in_push ha | exact in_push hl | exact htx | exact hnow | exact hcur | exact rfl | apply And.intro | exact (fun _ _ _ _ => Cell.le_refl _) | (intro i hi; rfl) | (intro i hi; exact absurd hi (Nat.not_lt_zero _))), by repeat' (first | exact trivial | exact in_push ha | exact in_push hl | exact htx | exact hnow | exact hcur | exact rfl | apply And.intro | exact (fun _ _ _ _ => Cell.le_refl _) | (intro i hi; rfl) | (intro i hi; exact absurd hi (Nat.not_lt_zero _)))⟩
        · have hnn0 : ¬ 0 < nn := fun h => of_decide_eq_false (p := (0 : Int) < (nn : Int)) hn0 (Int.natCast_pos.2 h)
          have hne : now = [] := List.eq_nil_of_length_eq_zero (by omega)
          have hst : rstep (fitsM g b c) (placeM K) (T, now, cur) (k : Int) = (T, now ++ [(k : Int)], cur ++ [gM K k]) := by
            unfold rstep
            rw [if_neg (fun h => h.1 hne), hpl]
          refine Need.mk ⟨(by show 0 + nn ≤ maxLen ∧ (0 + nn) * 8 ≤ 140737488355328; unfold maxLen; omega), fun i hi => rfl⟩ fun _ => ?_
          refine Need.mk (show nn + 1 ≤ maxLen ∧ (nn + 1) * 8 ≤ 140737488355328 by unfold maxLen; omega) fun _ => ?_
          refine Need.mk ix fun _ => Need.mk hkn fun _ => Need.mk (show nc ≤ 1000000 by omega) fun _ => ?_
          refine Need.mk (by show fitStd .i64 ((k : Int) + 1); unfold fitStd; omega) fun _ => ?_
          refine ⟨⟨k + 1, lg, lost, rest ++ [(k : Int)], T, now ++ [(k : Int)], cur ++ [gM K k], na, nl, nT, nn + 1, nc + 1, by omega, hs2, hr2.trans hst, hokq, ha, hl, hT, by simp [hn], by simp [hc], by omega, by omega, by omega⟩, (by show n' - (k + 1) < n' - k; omega), ?st⟩
          case st =>
            have htx : True := trivial
            have hnow := in_push (x := (k : Int)) hn
            have hcur := pushC_le (fr := false) (x := gM K k) hc rfl
            exact StT.ofL (σ := [0, 1, 2, 3, 4, 5, 6, 12, 8, 18]) ⟨rfl, by show List.Nodup [3, 5, 6, 12, 8, 18]; decide, by repeat' (first | exact trivial | exact in_push ha | exact in_push hl | exact htx | exact hnow | exact hcur | exact rfl | apply And.intro | exact (fun _ _ _ _ => Cell.le_refl _) | (intro i hi; rfl) | (intro i hi; exact absurd hi (Nat.not_lt_zero _))), by repeat' (first | exact trivial | exact in_push ha | exact in_push hl | exact htx | exact hnow | exact hcur | exact rfl | apply And.intro | exact (fun _ _ _ _ => Cell.le_refl _) | (intro i hi; rfl) | (intro i hi; exact absurd hi (Nat.not_lt_zero _)))⟩
      · have hnn : ¬ n2 = n' := fun h => of_decide_eq_false (p := (n2 : Int) = (n' : Int)) hn (by rw [h])
        clear hn
        have eG : groupOf n' Z k = 0 := by
          unfold groupOf
          rw [if_neg (by rw [hZ]; exact hnn)]
        refine Need.mk ix fun _ => Need.mk hkn fun _ => ?_
        refine Need.mk (show nu ≤ 1000000 by omega) fun _ => ?_
        refine Need.mk pU.1 fun _ => ?_
        generalize hE : fitsM g b c _ = E
        replace hE : fitsWith g b c U K k = E := (congrArg (fitsM g b c) pU.2.symm).trans hE
        show Runs Try.prog 3 (.loop _) _ _
        refine loop_ruleE (N := env (lft Try.prog 3) 0 .std tbB [(36, appWith1), (37, appWith), (21, appFn [] [(60, 250)] sFits)] [(11, [(0, true), (1, true), (2, true), (3, true), (4, true), (5, false), (6, false), (7, false), (8, true), (9, true)]), (19, [(0, true), (1, true), (2, true), (3, true), (4, true), (5, true), (6, true), (7, true), (8, true), (9, false), (10, false), (11, false), (12, true), (13, true)])]) rfl tbB_ok hC (fun c st K _ h => h) (by kernel_rfl) [] (X := LIl lg 0 (!E) na)
          (S := fun x => ⟨[.any, .c (.row 4), .c (.row 1), .c (.row 2), .c (.ptr 3 0), .any, .any, .any, .any, .any, .c (.row 5), .c (.row 6), .c (.row 7), .c (.row 8), .c (.row 9), .c (.int .i64 (k : Int)), .c (.int .i64 0), .c (.bool x.b), .c (.int .i64 (x.q : Int))] ++ List.replicate 97 .any, [.data false 60 50 n (msgG false L), .data false 60 50 n' (msgG false K), .elems 3 1 n2 (inG Z), .cells 37 [.int .i64 g, .int .i64 b, .int .i64 c], .data false 60 50 nu (msgG false U), .orow 39 1 nT (txG T), .row 3 1 nl (inG lost), .row 3 1 nn (inG now), .row 3 1 na (inG lg), .orow 60 50 nc (msgG false cur)]⟩) (μ := fun x => na - x.q) ⟨0, !E, by omega, by simp⟩ (by kernel_rfl) ?i0z ?irdz
        case i0z => exact StT.ofL (σ := [0, 1, 2, 3, 4, 5, 6, 7, 8, 9]) ⟨rfl, by show List.Nodup [3, 5, 6, 7, 8, 9]; decide, by repeat' (first | exact trivial | exact rfl | apply And.intro | exact (fun _ _ _ _ => Cell.le_refl _) | (intro i hi; rfl) | (intro i hi; exact absurd hi (Nat.not_lt_zero _))), by repeat' (first | exact trivial | exact rfl | apply And.intro | exact (fun _ _ _ _ => Cell.le_refl _) | (intro i hi; rfl) | (intro i hi; exact absurd hi (Nat.not_lt_zero _)))⟩
        rintro ⟨q, b1, hq, hb⟩
        unfold sFits
        generalize hg0 : (List.length : List UInt8 → Nat) = g0
        generalize hL : lft Try.prog _ = L
        try dsimp only
        try unfold leafG
        try unfold msgCl
        try unfold msgG
        try unfold msgC
        try unfold inG
        generalize ho0 : @lK = zo0, ho1 : @lV = zo1, ho2 : @lI = zo2, ho3 : @lP = zo3, ho4 : @lN = zo4, ho5 : @pG = zo5, ho6 : @rN = zo6, ho7 : @lenL = zo7, ho8 : @gM = zo8, ho9 : @msgsL = zo9, ho10 : @msgsPre = zo10, ho11 : @fitsM = zo11, ho12 : @skip = zo12, ho13 : @skStep = zo13, ho14 : @skOut = zo14, ho15 : @skPre = zo15, ho16 : @groupOf = zo16, ho17 : @iA = zo17, ho18 : @iL = zo18, ho19 : @pushC = zo19, ho20 : @inPre = zo20, ho21 : @placeM = zo21, ho22 : @skOf = zo22, ho23 : @cutT = zo23, ho24 : @oneM = zo24, ho25 : @txG = zo25, ho26 : @rstep = zo26, ho27 : @rfin = zo27
        generalize hA : Arith.std = A
        cbv
        subst hA hg0 hL ho0 ho1 ho2 ho3 ho4 ho5 ho6 ho7 ho8 ho9 ho10 ho11 ho12 ho13 ho14 ho15 ho16 ho17 ho18 ho19 ho20 ho21 ho22 ho23 ho24 ho25 ho26 ho27
        try simp only [← mpGet.eq_def, ← mpSet.eq_def]
        refine Ife.mk (fun hql => ?_) (fun hql => ?_)
        · have hqa : q < na := Int.ofNat_lt.mp (of_decide_eq_true (p := (q : Int) < (na : Int)) hql)
          clear hql
          have hs1 := lost_succ (lg := lg) (g := 0) (o0 := !E) (b := b1) (q := q) (by omega) hb
          refine Ife.mk (fun hb1 => ?_) (fun hb1 => ?_)
          · replace hb1 : b1 = true := hb1
            subst hb1
            refine Need.mk (by show fitStd .i64 ((q : Int) + 1); unfold fitStd; omega) fun _ => ?_
            refine ⟨⟨q + 1, true, by omega, by rw [hs1]; rfl⟩, (by show na - (q + 1) < na - q; omega), ?_⟩
            exact StT.ofL (σ := [0, 1, 2, 3, 4, 5, 6, 7, 8, 9]) ⟨rfl, by show List.Nodup [3, 5, 6, 7, 8, 9]; decide, by repeat' (first | exact trivial | exact rfl | apply And.intro | exact (fun _ _ _ _ => Cell.le_refl _) | (intro i hi; rfl) | (intro i hi; exact absurd hi (Nat.not_lt_zero _))), by repeat' (first | exact trivial | exact rfl | apply And.intro | exact (fun _ _ _ _ => Cell.le_refl _) | (intro i hi; rfl) | (intro i hi; exact absurd hi (Nat.not_lt_zero _)))⟩
          · replace hb1 : b1 = false := hb1
            subst hb1
            refine Ife.mk (fun hx0 => ?_) (fun hx0 => ?_)
            · have hx0 : decide ((0 : Int) < 0) = true := hx0
              refine Need.mk (show 0 ≤ (q : Int) ∧ (q : Int) < (na : Int) from ⟨Int.natCast_nonneg q, Int.ofNat_lt.mpr hqa⟩) fun _ => Need.mk (show q < na from hqa) fun _ => ?_
              refine Need.mk (by show fitStd .i64 ((q : Int) + 1); unfold fitStd; omega) fun _ => ?_
              refine ⟨⟨q + 1, decide (iA lg q = 0), by omega, by rw [hs1, hx0]; rfl⟩, (by show na - (q + 1) < na - q; omega), ?_⟩
              exact StT.ofL (σ := [0, 1, 2, 3, 4, 5, 6, 7, 8, 9]) ⟨rfl, by show List.Nodup [3, 5, 6, 7, 8, 9]; decide, by repeat' (first | exact trivial | exact rfl | apply And.intro | exact (fun _ _ _ _ => Cell.le_refl _) | (intro i hi; rfl) | (intro i hi; exact absurd hi (Nat.not_lt_zero _))), by repeat' (first | exact trivial | exact rfl | apply And.intro | exact (fun _ _ _ _ => Cell.le_refl _) | (intro i hi; rfl) | (intro i hi; exact absurd hi (Nat.not_lt_zero _)))⟩
            · have hx0 : decide ((0 : Int) < 0) = false := hx0
              refine Need.mk (by show fitStd .i64 ((q : Int) + 1); unfold fitStd; omega) fun _ => ?_
              refine ⟨⟨q + 1, false, by omega, by rw [hs1, hx0]; rfl⟩, (by show na - (q + 1) < na - q; omega), ?_⟩
              exact StT.ofL (σ := [0, 1, 2, 3, 4, 5, 6, 7, 8, 9]) ⟨rfl, by show List.Nodup [3, 5, 6, 7, 8, 9]; decide, by repeat' (first | exact trivial | exact rfl | apply And.intro | exact (fun _ _ _ _ => Cell.le_refl _) | (intro i hi; rfl) | (intro i hi; exact absurd hi (Nat.not_lt_zero _))), by repeat' (first | exact trivial | exact rfl | apply And.intro | exact (fun _ _ _ _ => Cell.le_refl _) | (intro i hi; rfl) | (intro i hi; exact absurd hi (Nat.not_lt_zero _)))⟩
        have hqe : ¬ q < na := fun h => of_decide_eq_false (p := (q : Int) < (na : Int)) hql (Int.ofNat_lt.mpr h)
        clear hql
        rw [List.take_of_length_le (by omega)] at hb
        have ho : skOut (fitsWith g b c U K) (groupOf n' Z) lg k = b1 := by
          unfold skOut
          rw [eG, hE, hb]
          exact Bool.or_comm _ _
        refine Ife.mk (fun hb1 => ?_) (fun hb1 => ?_)
        · replace hb1 : b1 = true := hb1
          rw [hb1] at ho
          refine Need.mk (show nl + 1 ≤ maxLen ∧ (nl + 1) * 8 ≤ 140737488355328 by unfold maxLen; omega) fun _ => ?_
          refine Need.mk (show na + 1 ≤ maxLen ∧ (na + 1) * 8 ≤ 140737488355328 by unfold maxLen; omega) fun _ => ?_
          refine Need.mk (by show fitStd .i64 ((k : Int) + 1); unfold fitStd; omega) fun _ => ?_
          refine ⟨⟨k + 1, lg ++ [0], lost ++ [(k : Int)], rest, T, now, cur, na + 1, nl + 1, nT, nn, nc, by omega, ?hsz, hr, hokc, by simp [ha], by simp [hl], hT, hn, hc, by omega, by omega, by omega⟩, (by show n' - (k + 1) < n' - k; omega), ?stz⟩
          case hsz => rw [skip_succ, hs]; unfold skStep; rw [if_pos ho, eG]
          case stz => exact StT.ofL (σ := [0, 1, 2, 3, 4, 5, 11, 7, 13, 9]) ⟨rfl, by show List.Nodup [3, 5, 11, 7, 13, 9]; decide, by repeat' (first | exact trivial | exact in_push ha | exact in_push hl | exact htx | exact hnow | exact hcur | exact rfl | apply And.intro | exact (fun _ _ _ _ => Cell.le_refl _) | (intro i hi; rfl) | (intro i hi; exact absurd hi (Nat.not_lt_zero _))), by repeat' (first | exact trivial | exact in_push ha | exact in_push hl | exact htx | exact hnow | exact hcur | exact rfl | apply And.intro | exact (fun _ _ _ _ => Cell.le_refl _) | (intro i hi; rfl) | (intro i hi; exact absurd hi (Nat.not_lt_zero _)))⟩
        replace hb1 : b1 = false := hb1
        rw [hb1] at ho
        have hs2 : skip (fitsWith g b c U K) (groupOf n' Z) (k + 1) = ⟨lg, lost, rest ++ [(k : Int)]⟩ := by
          rw [skip_succ, hs]
          unfold skStep
          rw [if_neg (by rw [ho]; decide)]
        have hr2 : (rest ++ [(k : Int)]).foldl (rstep (fitsM g b c) (placeM K)) ([], [], U) = rstep (fitsM g b c) (placeM K) (T, now, cur) (k : Int) := by rw [fold_snoc, hr]
        refine Ife.mk (fun hn0 => ?_) (fun hn0 => ?_)
        · have hnn0 : 0 < nn := Int.natCast_pos.1 (of_decide_eq_true (p := (0 : Int) < (nn : Int)) hn0)
          have hne : now ≠ [] := fun h => by rw [h] at hn; simp at hn; omega
          refine Need.mk ix fun _ => Need.mk hkn fun _ => ?_
          refine Need.mk (show nc ≤ 1000000 by omega) fun _ => ?_
          refine Need.mk pC.1 fun _ => ?_
          generalize hE2 : fitsM g b c _ = E2
          replace hE2 : fitsM g b c (cur ++ [gM K k]) = E2 := (congrArg (fitsM g b c) pC.2.symm).trans hE2
          refine Ife.mk (fun hf => ?_) (fun hf => ?_)
          · replace hf : E2 = false := by simpa [Arith.std] using hf
            rw [hf] at hE2
            refine Need.mk ⟨show nT + 1 ≤ maxLen ∧ (nT + 1) * 24 ≤ 140737488355328 by unfold maxLen; omega, trivial⟩ fun _ => ?_
            refine Need.mk ⟨(by show 0 + 0 ≤ maxLen ∧ (0 + 0) * 8 ≤ 140737488355328; unfold maxLen; omega), fun i hi => absurd hi (Nat.not_lt_zero _)⟩ fun _ => ?_
            refine Need.mk (show 0 + 1 ≤ maxLen ∧ (0 + 1) * 8 ≤ 140737488355328 by unfold maxLen; omega) fun _ => ?_
            refine Need.mk ix fun _ => Need.mk hkn fun _ => Need.mk trivial fun _ => ?_
            refine Need.mk (by show fitStd .i64 ((k : Int) + 1); unfold fitStd; omega) fun _ => ?_
            refine ⟨⟨k + 1, lg, lost, rest ++ [(k : Int)], T ++ [now], [(k : Int)], [gM K k], na, nl, nT + 1, 1, 1, by omega, hs2, ?hrz, fun x hx => by rw [List.mem_singleton.1 hx]; exact ho' k, ha, hl, by simp [hT], rfl, rfl, by omega, by omega, by omega⟩, (by show n' - (k + 1) < n' - k; omega), ?stz⟩
            case hrz => rw [hr2]; unfold rstep; rw [if_pos ⟨hne, hE2⟩]; rfl
            case stz =>
              have htx : ∀ i j, i < nT + 1 → j < 1 → Cell.le (pushC nT (txG T) [.es true 3 1 nn (inG now)] i j) (txG (T ++ [now]) i j) := txG_push hT hn fun i hi => rfl
              have hnow : ∀ i, i < 0 + 1 → pushG 0 (fun _ => []) [.int .i64 (k : Int)] i = inG [(k : Int)] i := fun i hi => by
                have : i = 0 := by omega
                subst this
                rfl
              have hcur : ∀ i j, i < 0 + 1 → j < 50 → Cell.le (pushC 0 (fun _ _ => Cell.pl .tt) (msgCl false (gM K k)) i j) (msgG false [gM K k] i j) := fun i j hi hj => by
                have : i = 0 := by omega
                subst this
                exact Cell.le_refl _
              exact StT.ofL (σ := [0, 1, 2, 3, 4, 18, 6, 21, 8, 28]) ⟨rfl, by show List.Nodup [3, 18, 6, 21, 8, 28]; decide, by repeat' (first | exact trivial | exact in_push ha | exact in_push hl | exact htx | exact hnow | exact hcur | exact rfl | apply And.intro | exact (fun _ _ _ _ => Cell.le_refl _) | (intro i hi; rfl) | (intro i hi; exact absurd hi (Nat.not_lt_zero _))), by repeat' (first | exact trivial | exact in_push ha | exact in_push hl | exact htx | exact hnow | exact hcur | exact rfl | apply And.intro | exact (fun _ _ _ _ => Cell.le_refl _) | (intro i hi; rfl) | (intro i hi; exact absurd hi (Nat.not_lt_zero _)))⟩
          · replace hf : E2 = true := by simpa [Arith.std] using hf
            rw [hf] at hE2
            have hst : rstep (fitsM g b c) (placeM K) (T, now, cur) (k : Int) = (T, now ++ [(k : Int)], cur ++ [gM K k]) := by
              unfold rstep
              rw [if_neg (fun h => by have h2 := h.2; rw [hpl] at h2; rw [hE2] at h2; cases h2), hpl]
            refine Need.mk ⟨(by show 0 + nn ≤ maxLen ∧ (0 + nn) * 8 ≤ 140737488355328; unfold maxLen; omega), fun i hi => rfl⟩ fun _ => ?_
            refine Need.mk (show nn + 1 ≤ maxLen ∧ (nn + 1) * 8 ≤ 140737488355328 by unfold maxLen; omega) fun _ => ?_
            refine Need.mk ix fun _ => Need.mk hkn fun _ => Need.mk (show nc ≤ 1000000 by omega) fun _ => ?_
            refine Need.mk (by show fitStd .i64 ((k : Int) + 1); unfold fitStd; omega) fun _ => ?_
            refine ⟨⟨k + 1, lg, lost, rest ++ [(k : Int)], T, now ++ [(k : Int)], cur ++ [gM K k], na, nl, nT, nn + 1, nc + 1, by omega, hs2, hr2.trans hst, hokq, ha, hl, hT, by simp [hn], by simp [hc], by omega, by omega, by omega⟩, (by show n' - (k + 1) < n' - k; omega), ?stz⟩
            case stz =>
              have htx : True := trivial
              have hnow := in_push (x := (k : Int)) hn
              have hcur := pushC_le (fr := false) (x := gM K k) hc rfl
              exact StT.ofL (σ := [0, 1, 2, 3, 4, 5, 6, 19, 8, 25]) ⟨rfl, by show List.Nodup [3, 5, 6, 19, 8, 25]; decide, by repeat' (first | exact trivial | exact in_push ha | exact in_push hl | exact htx | exact hnow | exact hcur | exact rfl | apply And.intro | exact (fun _ _ _ _ => Cell.le_refl _) | (intro i hi; rfl) | (intro i hi; exact absurd hi (Nat.not_lt_zero _))), by repeat' (first | exact trivial | exact in_push ha | exact in_push hl | exact htx | exact hnow | exact hcur | exact rfl | apply And.intro | exact (fun _ _ _ _ => Cell.le_refl _) | (intro i hi; rfl) | (intro i hi; exact absurd hi (Nat.not_lt_zero _)))⟩
        · have hnn0 : ¬ 0 < nn := fun h => of_decide_eq_false (p := (0 : Int) < (nn : Int)) hn0 (Int.natCast_pos.2 h)
          have hne : now = [] := List.eq_nil_of_length_eq_zero (by omega)
          have hst : rstep (fitsM g b c) (placeM K) (T, now, cur) (k : Int) = (T, now ++ [(k : Int)], cur ++ [gM K k]) := by
            unfold rstep
            rw [if_neg (fun h => h.1 hne), hpl]
          refine Need.mk ⟨(by show 0 + nn ≤ maxLen ∧ (0 + nn) * 8 ≤ 140737488355328; unfold maxLen; omega), fun i hi => rfl⟩ fun _ => ?_
          refine Need.mk (show nn + 1 ≤ maxLen ∧ (nn + 1) * 8 ≤ 140737488355328 by unfold maxLen; omega) fun _ => ?_
          refine Need.mk ix fun _ => Need.mk hkn fun _ => Need.mk (show nc ≤ 1000000 by omega) fun _ => ?_
          refine Need.mk (by show fitStd .i64 ((k : Int) + 1); unfold fitStd; omega) fun _ => ?_
          refine ⟨⟨k + 1, lg, lost, rest ++ [(k : Int)], T, now ++ [(k : Int)], cur ++ [gM K k], na, nl, nT, nn + 1, nc + 1, by omega, hs2, hr2.trans hst, hokq, ha, hl, hT, by simp [hn], by simp [hc], by omega, by omega, by omega⟩, (by show n' - (k + 1) < n' - k; omega), ?stz⟩
          case stz =>
            have htx : True := trivial
            have hnow := in_push (x := (k : Int)) hn
            have hcur := pushC_le (fr := false) (x := gM K k) hc rfl
            exact StT.ofL (σ := [0, 1, 2, 3, 4, 5, 6, 12, 8, 18]) ⟨rfl, by show List.Nodup [3, 5, 6, 12, 8, 18]; decide, by repeat' (first | exact trivial | exact in_push ha | exact in_push hl | exact htx | exact hnow | exact hcur | exact rfl | apply And.intro | exact (fun _ _ _ _ => Cell.le_refl _) | (intro i hi; rfl) | (intro i hi; exact absurd hi (Nat.not_lt_zero _))), by repeat' (first | exact trivial | exact in_push ha | exact in_push hl | exact htx | exact hnow | exact hcur | exact rfl | apply And.intro | exact (fun _ _ _ _ => Cell.le_refl _) | (intro i hi; rfl) | (intro i hi; exact absurd hi (Nat.not_lt_zero _)))⟩
    · have hkn : ¬ k < n' := fun h => of_decide_eq_false (p := (k : Int) < (n' : Int)) hlt (Int.ofNat_lt.mpr h)
      have hke : k = n' := by omega
      rw [hke] at hs
      rw [hs]
      have hrf : rfin (rest.foldl (rstep (fitsM g b c) (placeM K)) ([], [], U)) = if now = [] then T else T ++ [now] := by rw [hr]; rfl
      rw [hrf]
      clear hrf
      refine Ife.mk (fun hn0 => ?_) (fun hn0 => ?_)
      · have hnn0 : 0 < nn := Int.natCast_pos.1 (of_decide_eq_true (p := (0 : Int) < (nn : Int)) hn0)
        have hne : now ≠ [] := fun h => by rw [h] at hn; simp at hn; omega
        refine Need.mk ⟨show nT + 1 ≤ maxLen ∧ (nT + 1) * 24 ≤ 140737488355328 by unfold maxLen; omega, trivial⟩ fun _ => ?_
        rw [if_neg hne]
        have hlen : nT + 1 = (T ++ [now]).length := by simp [hT]
        have hget : ∀ i j, i < nT + 1 → j < 1 → Cell.le (pushC nT (txG T) [.es true 3 1 nn (inG now)] i j) (txG (T ++ [now]) i j) := txG_push hT hn fun i hi => rfl
        have hlen' : (∀ i j, i < nT + 1 → j < 1 → Cell.le (pushC nT (txG T) [.es true 3 1 nn (inG now)] i j) (txG (T ++ [now]) i j)) → ∀ i j, i < (T ++ [now]).length → j < 1 → Cell.le (pushC nT (txG T) [.es true 3 1 nn (inG now)] i j) (txG (T ++ [now]) i j) := fun h => by rw [← hlen]; exact h
        exact ⟨[11], [0, 1, 2, 11, 6], ⟨⟨push_new, trivial⟩, rfl, by repeat' (first | exact trivial | exact rfl | apply And.intro | exact (fun _ _ _ _ => Cell.le_refl _) | (intro i hi; rfl) | (intro i hi; exact absurd hi (Nat.not_lt_zero _))), by show List.Nodup [6]; decide, rfl, by repeat' (first | exact trivial | exact hlen | exact hlen' hget | exact hget | exact hl | exact rfl | apply And.intro | exact (fun _ _ _ _ => Cell.le_refl _) | (intro i hi; rfl) | (intro i hi; exact absurd hi (Nat.not_lt_zero _)))⟩⟩
      · have hnn0 : ¬ 0 < nn := fun h => of_decide_eq_false (p := (0 : Int) < (nn : Int)) hn0 (Int.natCast_pos.2 h)
        have hne : now = [] := List.eq_nil_of_length_eq_zero (by omega)
        rw [if_pos hne]
        have hlen := hT
        have hget : True := trivial
        exact ⟨[5], [0, 1, 2, 5, 6], ⟨⟨fun i j _ _ => rfl, trivial⟩, rfl, by repeat' (first | exact trivial | exact rfl | apply And.intro | exact (fun _ _ _ _ => Cell.le_refl _) | (intro i hi; rfl) | (intro i hi; exact absurd hi (Nat.not_lt_zero _))), by show List.Nodup [6]; decide, rfl, by repeat' (first | exact trivial | exact hlen | exact hlen' hget | exact hget | exact hl | exact rfl | apply And.intro | exact (fun _ _ _ _ => Cell.le_refl _) | (intro i hi; rfl) | (intro i hi; exact absurd hi (Nat.not_lt_zero _)))⟩⟩

end Go.Proofs.Ythomoliklfmnkaa.Vx
end

section
/- liglaw28.lists and the law BatchCuts, by the walker. -/
namespace Go.Proofs.Ythomoliklfmnkaa.Vx
open Go.RowKit
set_option linter.unusedVariables false
set_option linter.unusedSimpArgs false
def tA (T : List (List Int)) (i : Nat) : List Int := T.getD i []
def tN (T : List (List Int)) (i : Nat) : Nat := (tA T i).length
/-- Lists of numbers as elements. -/
def txEP (zp0 : type_of% @tA) (zp1 : type_of% @tN) (zp2 : type_of% @iA) (fr : Bool) (T : List (List Int)) (i : Nat) (j : Nat) : Cell := .es fr 3 1 (zp1 T i) (inGP zp2 (zp0 T i))
@[reducible] def txE := txEP tA tN iA
def llOf : Cell → List Int
  | .es _ _ _ n g => iL n g
  | _ => []
def llL (n : Nat) (get : Nat → Nat → Cell) : List (List Int) := (List.range n).map fun i => llOf (get i 0)
theorem llL_len {n : Nat} {get : Nat → Nat → Cell} : (llL n get).length = n := by simp [llL]
theorem llL_eq {T : List (List Int)} {n : Nat} {get : Nat → Nat → Cell} (hn : T.length = n) (h : ∀ i, i < n → ∃ fr, get i 0 = txE fr T i 0) : llL n get = T := by
  apply List.ext_getElem (by rw [llL_len, hn])
  intro i h1 h2
  have hi : i < n := by rw [llL_len] at h1; exact h1
  obtain ⟨fr, e⟩ := h i hi
  simp only [llL, List.getElem_map, List.getElem_range, e]
  show iL (tA T i).length (inG (tA T i)) = T[i]
  rw [iL_inG]
  simp [tA, List.getD, h2]
def llPre (ty sz n : Nat) (get : Nat → Nat → Cell) : Prop := ty = 39 ∧ sz = 1 ∧ (∀ i j, i < n → j < 1 → get i j = txE false (llL n get) i j) ∧ n ≤ 1000000 ∧ ∀ i, i < n → tN (llL n get) i ≤ 1000000
theorem llPre_of {T : List (List Int)} {fr : Bool} (hn : T.length ≤ 1000000) (hb : ∀ i, i < T.length → tN T i ≤ 1000000) : llPre 39 1 T.length (fun i j => (txE fr T i j).old) ∧ llL T.length (fun i j => (txE fr T i j).old) = T := by
  have e : llL T.length (fun i j => (txE fr T i j).old) = T := llL_eq rfl fun i _ => ⟨false, rfl⟩
  exact ⟨⟨rfl, rfl, fun i j _ _ => by rw [e]; rfl, hn, by rw [e]; exact hb⟩, e⟩
theorem ll_ext {T T' : List (List Int)} (hl : T.length = T'.length) (h : ∀ k, k < T.length → tA T k = tA T' k) : T = T' := by
  apply List.ext_getElem hl
  intro i h1 h2
  have := h i h1
  unfold tA at this
  simpa [List.getD, h1, h2] using this
structure LLi (T T' : List (List Int)) (n : Nat) where
  k : Nat
  h1 : k ≤ n
  h2 : ∀ j, j < k → tA T j = tA T' j
theorem rstep_all {F : List PMsg → Bool} {m : Int → PMsg} : ∀ (rs : List Int) (T : List (List Int)) (now : List Int) (cur : List PMsg), (rs.foldl (rstep F m) (T, now, cur)).1.flatten ++ (rs.foldl (rstep F m) (T, now, cur)).2.1 = T.flatten ++ now ++ rs
  | [], T, now, cur => by simp
  | r :: rs, T, now, cur => by
    rw [List.foldl_cons]
    by_cases h : now ≠ [] ∧ F (cur ++ [m r]) = false
    · rw [show rstep F m (T, now, cur) r = (T ++ [now], [r], [m r]) from if_pos h, rstep_all rs]
      simp
    · rw [show rstep F m (T, now, cur) r = (T, now ++ [r], cur ++ [m r]) from if_neg h, rstep_all rs]
      simp
/-- The transactions, put behind one another, are what is not skipped. -/
theorem cutT_flat {g b c : Int} {U M : List PMsg} {gs : List Int} : (cutT g b c U M gs).flatten = (skOf g b c U M gs).rest := by
  rw [cutT_fold]
  have h := rstep_all (F := fitsM g b c) (m := placeM M) (skOf g b c U M gs).rest [] [] U
  generalize (skOf g b c U M gs).rest.foldl (rstep (fitsM g b c) (placeM M)) ([], [], U) = s at *
  unfold rfin
  split
  · rename_i h0
    rw [h0] at h
    simpa using h
  · simpa using h
theorem rstep_ne {F : List PMsg → Bool} {m : Int → PMsg} : ∀ (rs : List Int) (T : List (List Int)) (now : List Int) (cur : List PMsg), (∀ t ∈ T, t ≠ []) → ∀ t ∈ (rs.foldl (rstep F m) (T, now, cur)).1, t ≠ []
  | [], T, now, cur, h => h
  | r :: rs, T, now, cur, h => by
    rw [List.foldl_cons]
    by_cases h2 : now ≠ [] ∧ F (cur ++ [m r]) = false
    · rw [show rstep F m (T, now, cur) r = (T ++ [now], [r], [m r]) from if_pos h2]
      refine rstep_ne rs _ _ _ fun t ht => ?_
      rcases List.mem_append.1 ht with h3 | h3
      · exact h t h3
      · rw [List.mem_singleton.1 h3]; exact h2.1
    · rw [show rstep F m (T, now, cur) r = (T, now ++ [r], cur ++ [m r]) from if_neg h2]
      exact rstep_ne rs _ _ _ h
theorem cutT_ne {g b c : Int} {U M : List PMsg} {gs : List Int} : ∀ t ∈ cutT g b c U M gs, t ≠ [] := by
  rw [cutT_fold]
  have h := rstep_ne (F := fitsM g b c) (m := placeM M) (skOf g b c U M gs).rest [] [] U (fun t ht => absurd ht (by simp))
  generalize (skOf g b c U M gs).rest.foldl (rstep (fitsM g b c) (placeM M)) ([], [], U) = s at *
  unfold rfin
  split
  · exact h
  · rename_i h0
    intro t ht
    rcases List.mem_append.1 ht with h3 | h3
    · exact h t h3
    · rw [List.mem_singleton.1 h3]; exact h0
theorem flat_ge {T : List (List Int)} (h : ∀ t ∈ T, t ≠ []) : T.length ≤ T.flatten.length := by
  induction T with
  | nil => simp
  | cons t T ih =>
    have h1 := ih fun x hx => h x (by simp [hx])
    have h2 : t ≠ [] := h t (by simp)
    have h3 : 0 < t.length := List.length_pos_iff.2 h2
    rw [List.flatten_cons, List.length_append, List.length_cons]
    omega
theorem cutT_len {g b c : Int} {U M : List PMsg} {gs : List Int} : (cutT g b c U M gs).length ≤ M.length := by
  have h := flat_ge (cutT_ne (g := g) (b := b) (c := c) (U := U) (M := M) (gs := gs))
  rw [cutT_flat] at h
  have h2 := skip_len (F := fitsWith g b c U M) (G := groupOf M.length gs) M.length
  have h3 : (skOf g b c U M gs).lost.length + (skOf g b c U M gs).rest.length = M.length := h2.2
  omega
theorem tN_le {T : List (List Int)} {i : Nat} (hi : i < T.length) : tN T i ≤ T.flatten.length := by
  have hm : tA T i ∈ T := by
    unfold tA
    simp [List.getD, hi]
  exact (List.sublist_flatten_of_mem hm).length_le
theorem cutT_tN {g b c : Int} {U M : List PMsg} {gs : List Int} {i : Nat} (hi : i < (cutT g b c U M gs).length) : tN (cutT g b c U M gs) i ≤ M.length := by
  have h := tN_le hi
  rw [cutT_flat] at h
  have h2 := skip_len (F := fitsWith g b c U M) (G := groupOf M.length gs) M.length
  have h3 : (skOf g b c U M gs).lost.length + (skOf g b c U M gs).rest.length = M.length := h2.2
  omega
def sLists : SpecF
  | [.c (.row 0), .c (.row 1)], [.data false ty sz n get, .data false ty' sz' n' get'] => some (llPre ty sz n get ∧ llPre ty' sz' n' get', .c (.bool (decide (llL n get = llL n' get'))), [.dead, .dead])
  | _, _ => none

set_option maxRecDepth 100000 in
set_option maxHeartbeats 8000000 in
theorem listsP : Fn Try.prog 18 [] [(39, 201), (39, 201)] sLists := by
  have hC : CtsOk Try.prog [(19, appFn [] [(3, 1), (3, 1)] sEqI)] := CtsOk.cons (Fn.ct eqIP) <| CtsOk.nil _
  refine Fn.of (E := tbB) [] 0 [(6, [(9999, true), (0, true), (1, true), (2, true), (4, true), (5, true), (6, true), (3003, false), (7, false), (8, false), (9, true), (2999, false), (7, false), (3, false), (8, false), (9, true), (2999, false)])] tbB_ok hC (by kernel_rfl) Try.func18 rfl rfl rfl (by kernel_rfl) (by kernel_rfl) 2 5 1 ?_ ?_
  · intro args h pre r h' hs
    unfold sLists at hs
    split at hs
    · cases hs; exact ⟨rfl, rfl, Nat.le_of_ble_eq_true rfl⟩
    · cases hs
  · intro args h pre r h' hs hp
    unfold sLists at hs
    split at hs
    rotate_left
    · cases hs
    rename_i ty sz n get ty' sz' n' get'
    cases hs
    obtain ⟨⟨rfl, rfl, hst, hm, hb⟩, ⟨rfl, rfl, hst', hm', hb'⟩⟩ := hp
    refine ⟨[.data false 39 1 n (txE false (llL n get)), .data false 39 1 n' (txE false (llL n' get'))], ⟨⟨rfl, rfl, rfl, rfl, fun i j hi hj => by rw [hst i j hi hj]; exact Cell.le_refl _⟩, ⟨rfl, rfl, rfl, rfl, fun i j hi hj => by rw [hst' i j hi hj]; exact Cell.le_refl _⟩, trivial⟩, ?_⟩
    have hL : (llL n get).length = n := llL_len
    have hL' : (llL n' get').length = n' := llL_len
    generalize llL n get = T at *
    generalize llL n' get' = T' at *
    clear hst hst'
    unfold sEqI
    generalize hg0 : (List.length : List UInt8 → Nat) = g0
    generalize hL : lft Try.prog _ = L
    try unfold txE
    try unfold inG
    generalize ho0 : @iA = zo0, ho1 : @iL = zo1, ho2 : @inPre = zo2, ho3 : @tA = zo3, ho4 : @tN = zo4, ho5 : @llL = zo5, ho6 : @llPre = zo6
    generalize hA : Arith.std = A
    cbv
    subst hA hg0 hL ho0 ho1 ho2 ho3 ho4 ho5 ho6
    try simp only [← mpGet.eq_def, ← mpSet.eq_def]
    obtain ⟨E, hEd⟩ : ∃ E, decide (T = T') = E := ⟨_, rfl⟩
    rw [hEd]
    refine Ife.mk (fun h => ?_) (fun h => ?_)
    · have hne : ¬ n = n' := fun e => by
        have h0 : (!decide ((n : Int) = (n' : Int))) = true := h
        rw [e] at h0
        simp at h0
      have hE : false = E := by
        rw [← hEd]
        exact (decide_eq_false fun e => hne (by rw [← hL, ← hL', e])).symm
      subst hE
      exact ⟨[0, 1], ⟨rfl, by repeat' (first | exact trivial | exact rfl | apply And.intro | exact (fun _ _ _ _ => Cell.le_refl _) | (intro i hi; rfl) | (intro i hi; exact absurd hi (Nat.not_lt_zero _))), by decide, rfl, by repeat' (first | exact trivial | exact rfl | apply And.intro | exact (fun _ _ _ _ => Cell.le_refl _) | (intro i hi; rfl) | (intro i hi; exact absurd hi (Nat.not_lt_zero _)))⟩⟩
    have hnn : n = n' := by
      have h0 : (!decide ((n : Int) = (n' : Int))) = false := h
      have h1 : (n : Int) = (n' : Int) := by simpa using h0
      omega
    clear h
    show Runs Try.prog 2 (.loop _) _ _
    refine loop_ruleL (N := env (lft Try.prog 2) 0 .std tbB [(19, appFn [] [(3, 1), (3, 1)] sEqI)] [(6, [(9999, true), (0, true), (1, true), (2, true), (4, true), (5, true), (6, true), (3003, false), (7, false), (8, false), (9, true), (2999, false), (7, false), (3, false), (8, false), (9, true), (2999, false)])]) rfl tbB_ok hC (fun c st K _ h => h) (by kernel_rfl) [] (X := LLi T T' n)
      (S := fun x => ⟨[.c (.row 0), .c (.row 1), .any, .any, .any, .c (.int .i64 (x.k : Int))] ++ List.replicate 21 .any, [.data false 39 1 n (txE false T), .data false 39 1 n' (txE false T')]⟩) (μ := fun x => n - x.k) ⟨0, by omega, fun j hj => absurd hj (by omega)⟩ (by kernel_rfl) [0, 1] ?_ ?_
    · refine ⟨rfl, by show List.Nodup []; exact List.nodup_nil, ?_, ?_⟩ <;> repeat' (first | exact trivial | exact rfl | apply And.intro | exact (fun _ _ _ _ => Cell.le_refl _) | (intro i hi; rfl) | (intro i hi; exact absurd hi (Nat.not_lt_zero _)))
    rintro ⟨k, h1, h2⟩
    unfold sEqI
    generalize hg0 : (List.length : List UInt8 → Nat) = g0
    generalize hL : lft Try.prog _ = L
    try dsimp only
    try unfold txE
    try unfold inG
    generalize ho0 : @iA = zo0, ho1 : @iL = zo1, ho2 : @inPre = zo2, ho3 : @tA = zo3, ho4 : @tN = zo4, ho5 : @llL = zo5, ho6 : @llPre = zo6
    generalize hA : Arith.std = A
    cbv
    subst hA hg0 hL ho0 ho1 ho2 ho3 ho4 ho5 ho6
    try simp only [← mpGet.eq_def, ← mpSet.eq_def]
    refine Ife.mk (fun hlt => ?_) (fun hlt => ?_)
    · have hkn : k < n := Int.ofNat_lt.mp (of_decide_eq_true (p := (k : Int) < (n : Int)) hlt)
      clear hlt
      have ix : 0 ≤ (k : Int) ∧ (k : Int) < (n : Int) := ⟨Int.natCast_nonneg k, Int.ofNat_lt.mpr hkn⟩
      have ix' : 0 ≤ (k : Int) ∧ (k : Int) < (n' : Int) := ⟨Int.natCast_nonneg k, Int.ofNat_lt.mpr (hnn ▸ hkn)⟩
      have p1 : inPre 3 1 (tN T k) (inG (tA T k)) := ⟨rfl, rfl, inAt_inG _ _, hb k hkn⟩
      have p2 : inPre 3 1 (tN T' k) (inG (tA T' k)) := ⟨rfl, rfl, inAt_inG _ _, hb' k (hnn ▸ hkn)⟩
      have e1 : iL (tN T k) (inG (tA T k)) = tA T k := iL_inG _
      have e2 : iL (tN T' k) (inG (tA T' k)) = tA T' k := iL_inG _
      have hE3 : ∀ b, (!decide (iL (tN T k) (inG (tA T k)) = iL (tN T' k) (inG (tA T' k)))) = b → (b = true → E = false) ∧ (b = false → tA T k = tA T' k) := fun b hb0 => by
        rw [e1, e2] at hb0
        subst hb0
        refine ⟨fun h => ?_, fun h => ?_⟩
        · rw [← hEd]
          refine decide_eq_false fun e => ?_
          rw [e] at h
          simp at h
        · simpa using h
      refine Need.mk ix fun _ => Need.mk ix' fun _ => ?_
      refine ⟨?_, ?_⟩
      · refine Need.mk hkn fun _ => Need.mk (show k < n' from hnn ▸ hkn) fun _ => Need.mk ⟨p1, p2⟩ fun _ => ?_
        refine Ife.mk (fun hh => ?_) (fun hh => ?_)
        · have hE := (hE3 _ rfl).1 hh
          subst hE
          exact ⟨[0, 1], ⟨rfl, by repeat' (first | exact trivial | exact rfl | apply And.intro | exact (fun _ _ _ _ => Cell.le_refl _) | (intro i hi; rfl) | (intro i hi; exact absurd hi (Nat.not_lt_zero _))), by decide, rfl, by repeat' (first | exact trivial | exact rfl | apply And.intro | exact (fun _ _ _ _ => Cell.le_refl _) | (intro i hi; rfl) | (intro i hi; exact absurd hi (Nat.not_lt_zero _)))⟩⟩
        · have hE := (hE3 _ rfl).2 hh
          refine Need.mk (by show fitStd .i64 ((k : Int) + 1); unfold fitStd; omega) fun _ => ?_
          refine ⟨⟨k + 1, by omega, fun j hj => ?_⟩, [0, 1], (by show n - (k + 1) < n - k; omega), ?_⟩
          · rcases Nat.lt_succ_iff_lt_or_eq.1 hj with h | rfl
            · exact h2 j h
            · exact hE
          · refine ⟨rfl, by show List.Nodup []; exact List.nodup_nil, ?_, ?_⟩ <;> repeat' (first | exact trivial | exact rfl | apply And.intro | exact (fun _ _ _ _ => Cell.le_refl _) | (intro i hi; rfl) | (intro i hi; exact absurd hi (Nat.not_lt_zero _)))
      · refine Need.mk (show k < n' from hnn ▸ hkn) fun _ => Need.mk hkn fun _ => Need.mk ⟨p1, p2⟩ fun _ => ?_
        refine Ife.mk (fun hh => ?_) (fun hh => ?_)
        · have hE := (hE3 _ rfl).1 hh
          subst hE
          exact ⟨[0, 1], ⟨rfl, by repeat' (first | exact trivial | exact rfl | apply And.intro | exact (fun _ _ _ _ => Cell.le_refl _) | (intro i hi; rfl) | (intro i hi; exact absurd hi (Nat.not_lt_zero _))), by decide, rfl, by repeat' (first | exact trivial | exact rfl | apply And.intro | exact (fun _ _ _ _ => Cell.le_refl _) | (intro i hi; rfl) | (intro i hi; exact absurd hi (Nat.not_lt_zero _)))⟩⟩
        · have hE := (hE3 _ rfl).2 hh
          refine Need.mk (by show fitStd .i64 ((k : Int) + 1); unfold fitStd; omega) fun _ => ?_
          refine ⟨⟨k + 1, by omega, fun j hj => ?_⟩, [0, 1], (by show n - (k + 1) < n - k; omega), ?_⟩
          · rcases Nat.lt_succ_iff_lt_or_eq.1 hj with h | rfl
            · exact h2 j h
            · exact hE
          · refine ⟨rfl, by show List.Nodup []; exact List.nodup_nil, ?_, ?_⟩ <;> repeat' (first | exact trivial | exact rfl | apply And.intro | exact (fun _ _ _ _ => Cell.le_refl _) | (intro i hi; rfl) | (intro i hi; exact absurd hi (Nat.not_lt_zero _)))
    · have hkn : ¬ k < n := fun h => of_decide_eq_false (p := (k : Int) < (n : Int)) hlt (Int.ofNat_lt.mpr h)
      have hE : true = E := by
        rw [← hEd]
        exact (decide_eq_true (ll_ext (by omega) fun j hj => h2 j (by omega))).symm
      subst hE
      exact ⟨[0, 1], ⟨rfl, by repeat' (first | exact trivial | exact rfl | apply And.intro | exact (fun _ _ _ _ => Cell.le_refl _) | (intro i hi; rfl) | (intro i hi; exact absurd hi (Nat.not_lt_zero _))), by decide, rfl, by repeat' (first | exact trivial | exact rfl | apply And.intro | exact (fun _ _ _ _ => Cell.le_refl _) | (intro i hi; rfl) | (intro i hi; exact absurd hi (Nat.not_lt_zero _)))⟩⟩

end Go.Proofs.Ythomoliklfmnkaa.Vx
end

section
/- The law BatchCuts, by the walker. -/
namespace Go.Proofs.Ythomoliklfmnkaa.Vx
open Go.RowKit
set_option linter.unusedVariables false
set_option linter.unusedSimpArgs false
def sBatchCuts : SpecF
  | [.agg [.int .i64 g, .int .i64 b, .int .i64 c], .c (.row 0), .c (.row 1), .c (.row 2)], [.data false ty sz n get, .data false ty' sz' n' get', .elems it one n2 get2] => some (msgsPre0 ty sz n get ∧ msgsPre0 ty' sz' n' get' ∧ inPre2b it one n2 get2, .c .tt, [.dead, .dead, .dead])
  | _, _ => none

set_option maxRecDepth 100000 in
set_option maxHeartbeats 32000000 in
theorem batchCutsP : Fn Try.prog 4 [] [(60, 250), (60, 250), (3, 1)] sBatchCuts := by
  have hC : CtsOk Try.prog [(14, appFn [] [] sFirst28), (15, appFn [] [(60, 250)] sLightMs), (16, appFn [] [(60, 250), (60, 250), (3, 1)] sCut), (17, appFn [] [(60, 250), (60, 250), (3, 1)] sCut), (18, appFn [] [(39, 201), (39, 201)] sLists), (19, appFn [] [(3, 1), (3, 1)] sEqI), (20, appFn [] [(60, 250)] sFits), (21, appFn [] [(60, 250)] sFits)] := CtsOk.cons (Fn.ct first28P) <| CtsOk.cons (Fn.ct lightMsP) <| CtsOk.cons (Fn.ct cutP) <| CtsOk.cons (Fn.ct rcutP) <| CtsOk.cons (Fn.ct listsP) <| CtsOk.cons (Fn.ct eqIP) <| CtsOk.cons (Fn.ct fitsP) <| CtsOk.cons (Fn.ct rfitsP) <| CtsOk.nil _
  refine Fn.of (E := tbB) [] 0 [(7, [(0, true), (1, true), (2, false), (3, true), (4, true), (5, true), (6, false), (7, true), (8, true), (9, true), (10, true), (12, true), (13, true), (11, false), (14, false), (15, true), (16, true), (17, true)])] tbB_ok hC (by kernel_rfl) Try.func4 rfl rfl rfl (by kernel_rfl) (by kernel_rfl) 3 5 1 ?_ ?_
  · intro args h pre r h' hs
    unfold sBatchCuts at hs
    split at hs
    · cases hs; exact ⟨rfl, rfl, Nat.le_of_ble_eq_true rfl⟩
    · cases hs
  · intro args h pre r h' hs hp
    unfold sBatchCuts at hs
    split at hs
    rotate_left
    · cases hs
    rename_i g b c ty sz n get ty' sz' n' get' it one n2 get2
    cases hs
    obtain ⟨⟨rfl, rfl, hst, hraw, hm⟩, ⟨rfl, rfl, hst', hraw', hm'⟩, ⟨rfl, rfl, hin, hi2⟩⟩ := hp
    have k0 := msgs0 hst hraw
    have k0' := msgs0 hst' hraw'
    refine ⟨[.data false 60 50 n (msgG false (msgsL n get)), .data false 60 50 n' (msgG false (msgsL n' get')), .elems 3 1 n2 (inG (iL n2 get2))], ⟨⟨rfl, rfl, rfl, rfl, fun i j hi hj => by rw [hst i j hi hj]; exact Cell.le_refl _⟩, ⟨rfl, rfl, rfl, rfl, fun i j hi hj => by rw [hst' i j hi hj]; exact Cell.le_refl _⟩, ⟨rfl, rfl, rfl, fun i hi => by rw [← hin.eq hi]⟩, trivial⟩, ?_⟩
    have hL : (msgsL n get).length = n := msgsL_len
    have hL' : (msgsL n' get').length = n' := msgsL_len
    have hZ : (iL n2 get2).length = n2 := iL_len
    generalize msgsL n get = L at *
    generalize msgsL n' get' = K at *
    generalize iL n2 get2 = Z at *
    clear hst hst' hin
    unfold sFirst28 sLightMs sCut sLists sEqI sFits
    generalize hg0 : (List.length : List UInt8 → Nat) = g0
    generalize hg1 : (List.length : List Int → Nat) = g1
    generalize hg2 : (List.length : List (List Int) → Nat) = g2
    generalize hL : lft Try.prog _ = L
    try unfold leafG
    try unfold msgCl
    try unfold msgG
    try unfold msgC
    try unfold inG
    generalize ho0 : @lK = zo0, ho1 : @lV = zo1, ho2 : @lI = zo2, ho3 : @lP = zo3, ho4 : @lN = zo4, ho5 : @pG = zo5, ho6 : @rN = zo6, ho7 : @lenL = zo7, ho8 : @gM = zo8, ho9 : @msgsL = zo9, ho10 : @msgsPre = zo10, ho11 : @msgsPre0 = zo11, ho12 : @lightMs = zo12, ho13 : @fitsM = zo13, ho14 : @skPre = zo14, ho15 : @groupOf = zo15, ho16 : @iA = zo16, ho17 : @iL = zo17, ho18 : @inPre = zo18, ho19 : @skOf = zo19, ho20 : @cutT = zo20, ho21 : @oneM = zo21, ho22 : @txG = zo22, ho23 : @llL = zo23, ho24 : @llPre = zo24, ho25 : @inPre2b = zo25
    generalize hA : Arith.std = A
    cbv
    subst hA hg0 hg1 hg2 hL ho0 ho1 ho2 ho3 ho4 ho5 ho6 ho7 ho8 ho9 ho10 ho11 ho12 ho13 ho14 ho15 ho16 ho17 ho18 ho19 ho20 ho21 ho22 ho23 ho24 ho25
    try simp only [← mpGet.eq_def, ← mpSet.eq_def]
    refine Need.mk trivial fun _ => ?_
    refine Ife.mk (fun h => ?_) (fun h => ?_)
    · refine Need.mk trivial fun _ => ?_
      exact ⟨[0, 1, 2], ⟨rfl, by repeat' (first | exact trivial | exact rfl | apply And.intro | exact (fun _ _ _ _ => Cell.le_refl _) | (intro i hi; rfl) | (intro i hi; exact absurd hi (Nat.not_lt_zero _))), by decide, rfl, by repeat' (first | exact trivial | exact rfl | apply And.intro | exact (fun _ _ _ _ => Cell.le_refl _) | (intro i hi; rfl) | (intro i hi; exact absurd hi (Nat.not_lt_zero _)))⟩⟩
    replace h : ¬ (3 : Int) < @Nat.cast Int instNatCastInt n := of_decide_eq_false (p := (3 : Int) < (n : Int)) h
    refine Ife.mk (fun h' => ?_) (fun h' => ?_)
    · refine Need.mk trivial fun _ => ?_
      exact ⟨[0, 1, 2], ⟨rfl, by repeat' (first | exact trivial | exact rfl | apply And.intro | exact (fun _ _ _ _ => Cell.le_refl _) | (intro i hi; rfl) | (intro i hi; exact absurd hi (Nat.not_lt_zero _))), by decide, rfl, by repeat' (first | exact trivial | exact rfl | apply And.intro | exact (fun _ _ _ _ => Cell.le_refl _) | (intro i hi; rfl) | (intro i hi; exact absurd hi (Nat.not_lt_zero _)))⟩⟩
    replace h' : ¬ (40 : Int) < @Nat.cast Int instNatCastInt n' := of_decide_eq_false (p := (40 : Int) < (n' : Int)) h'
    refine Need.mk (msgsPre0_n hL hraw hm) fun _ => ?_
    rw [k0]
    refine Ife.mk (fun hl => ?_) (fun hl => ?_)
    · refine Need.mk trivial fun _ => ?_
      exact ⟨[0, 1, 2], ⟨rfl, by repeat' (first | exact trivial | exact rfl | apply And.intro | exact (fun _ _ _ _ => Cell.le_refl _) | (intro i hi; rfl) | (intro i hi; exact absurd hi (Nat.not_lt_zero _))), by decide, rfl, by repeat' (first | exact trivial | exact rfl | apply And.intro | exact (fun _ _ _ _ => Cell.le_refl _) | (intro i hi; rfl) | (intro i hi; exact absurd hi (Nat.not_lt_zero _)))⟩⟩
    replace hl : (!lightMs L) = false := hl
    rw [Bool.not_eq_false'] at hl
    obtain ⟨-, hok⟩ := lightMs_ok hl hraw
    refine Need.mk (msgsPre0_n hL' hraw' hm') fun _ => ?_
    rw [k0']
    refine Ife.mk (fun hl' => ?_) (fun hl' => ?_)
    · refine Need.mk trivial fun _ => ?_
      exact ⟨[0, 1, 2], ⟨rfl, by repeat' (first | exact trivial | exact rfl | apply And.intro | exact (fun _ _ _ _ => Cell.le_refl _) | (intro i hi; rfl) | (intro i hi; exact absurd hi (Nat.not_lt_zero _))), by decide, rfl, by repeat' (first | exact trivial | exact rfl | apply And.intro | exact (fun _ _ _ _ => Cell.le_refl _) | (intro i hi; rfl) | (intro i hi; exact absurd hi (Nat.not_lt_zero _)))⟩⟩
    replace hl' : (!lightMs K) = false := hl'
    rw [Bool.not_eq_false'] at hl'
    obtain ⟨-, hok'⟩ := lightMs_ok hl' hraw'
    refine Ife.mk (fun h2 => ?_) (fun h2 => ?_)
    · refine Need.mk trivial fun _ => ?_
      exact ⟨[0, 1, 2], ⟨rfl, by repeat' (first | exact trivial | exact rfl | apply And.intro | exact (fun _ _ _ _ => Cell.le_refl _) | (intro i hi; rfl) | (intro i hi; exact absurd hi (Nat.not_lt_zero _))), by decide, rfl, by repeat' (first | exact trivial | exact rfl | apply And.intro | exact (fun _ _ _ _ => Cell.le_refl _) | (intro i hi; rfl) | (intro i hi; exact absurd hi (Nat.not_lt_zero _)))⟩⟩
    replace h2 : ¬ (60 : Int) < @Nat.cast Int instNatCastInt n2 := of_decide_eq_false (p := (60 : Int) < (n2 : Int)) h2
    have pU := msgsPre_n (fr := false) hL hok (by omega : n ≤ 1000000)
    have eU := msgsL_n (fr := false) hL hok
    have pK := msgsPre_n (fr := false) hL' hok' (by omega : n' ≤ 1000000)
    have eK := msgsL_n (fr := false) hL' hok'
    have eZ : iL n2 (inG Z) = Z := by rw [← hZ]; exact iL_inG Z
    have pZ : inPre 3 1 n2 (inG Z) := ⟨rfl, rfl, inAt_inG _ _, by omega⟩
    have pS : skPre n n' := ⟨by omega, by omega⟩
    refine Need.mk ⟨pU, pK, pZ, pS⟩ fun _ => Need.mk ⟨pU, pK, pZ, pS⟩ fun _ => ?_
    have hCl := cutT_len (g := g) (b := b) (c := c) (U := oneM L) (M := K) (gs := Z)
    have hCt := fun i => cutT_tN (g := g) (b := b) (c := c) (U := oneM L) (M := K) (gs := Z) (i := i)
    have hlen1 := skip_len (F := fitsWith g b c (oneM L) K) (G := groupOf K.length Z) K.length
    replace hlen1 : _ ∧ (skOf g b c (oneM L) K Z).lost.length + _ = _ := hlen1
    have hA0 : (skOf g b c (oneM L) K Z).lost.length ≤ 1000000 := by omega
    clear hlen1
    generalize hC1 : cutT g b c _ _ _ = C1
    generalize hS1 : skOf g b c _ _ _ = SA
    rw [show skOf g b c (oneM L) K Z = SA from Eq.trans (congrArg (skOf g b c (oneM L) K) eZ.symm) hS1] at hA0
    rw [show cutT g b c (oneM L) K Z = C1 from Eq.trans (congrArg (cutT g b c (oneM L) K) eZ.symm) hC1] at hCl hCt
    clear hC1 hS1
    obtain ⟨l1, A, r1⟩ := SA
    replace hA0 : A.length ≤ 1000000 := hA0
    have pl := llPre_of (T := C1) (fr := true) (by omega) (fun i hi => Nat.le_trans (hCt i hi) (by omega))
    have pI : inPre 3 1 A.length (inG A) := ⟨rfl, rfl, inAt_inG _ _, hA0⟩
    refine Need.mk ⟨pl.1, pl.1⟩ fun _ => ?_
    refine Ife.yes (by first | exact decide_eq_true rfl | rfl) ?_
    refine Need.mk ⟨pI, pI⟩ fun _ => ?_
    refine Ife.yes (by first | exact decide_eq_true rfl | rfl) ?_
    refine Need.mk pK fun _ => Need.mk pK fun _ => ?_
    exact ⟨[0, 1, 2], ⟨rfl, by repeat' (first | exact trivial | exact (beq_self_eq_true _) | exact rfl | apply And.intro | exact (fun _ _ _ _ => Cell.le_refl _) | (intro i hi; rfl) | (intro i hi; exact absurd hi (Nat.not_lt_zero _))), by decide, rfl, by repeat' (first | exact trivial | exact rfl | apply And.intro | exact (fun _ _ _ _ => Cell.le_refl _) | (intro i hi; rfl) | (intro i hi; exact absurd hi (Nat.not_lt_zero _)))⟩⟩

end Go.Proofs.Ythomoliklfmnkaa.Vx
namespace Go.Proofs.Ythomoliklfmnkaa
open Go.RowKit
set_option linter.unusedVariables false
theorem batchCutsWalk (w : World) (g b c : Int) (v : Value) (L : List Vx.PMsg) (hv : (Vx.Cell.ns false 60 50 L.length (Vx.msgG false L)).shows w (fun _ b => b < w.heap.size) v) (hn : L.length ≤ maxLen) (hr : ∀ m ∈ L, Vx.MsgRaw m)
    (v' : Value) (K : List Vx.PMsg) (hv' : (Vx.Cell.ns false 60 50 K.length (Vx.msgG false K)).shows w (fun _ b => b < w.heap.size) v') (hn' : K.length ≤ maxLen) (hr' : ∀ m ∈ K, Vx.MsgRaw m)
    (p : Option Addr) (cap : Nat) (ls : List Int) (hs : SlIn w p 1 cap (ls.map fun n => [.int .i64 n])) :
    Calls Try.prog 4 #[.agg #[.int .i64 g, .int .i64 b, .int .i64 c], v, v', .slice p ls.length cap] w fun e w' => e = .returned (.bool true) ∧ Below w.heap.size w w' := by
  obtain ⟨q, hq, r1⟩ := Vx.Rel.addMsgs (Vx.Rel.refl w) hv
  obtain ⟨q', hq', r2⟩ := Vx.Rel.addMsgs r1 hv'
  obtain ⟨q2, hq2, gd⟩ := inz_good hs
  have hm : ls.length ≤ 9223372036854775807 := by have := hs.max; simpa [maxLen] using this
  have d : Vx.CV.den [q, q', q2] (.row 0) = some v := Vx.msgs_den hv hq
  have d' : Vx.CV.den [q, q', q2] (.row 1) = some v' := Vx.msgs_den hv' hq'
  rw [← hq2]
  refine Calls.mono (Vx.batchCutsP.run [.agg [.int .i64 g, .int .i64 b, .int .i64 c], .c (.row 0), .c (.row 1), .c (.row 2)] [.data false 60 50 L.length (Vx.msgG false L), .data false 60 50 K.length (Vx.msgG false K), .elems 3 1 ls.length (Vx.inG ls)] _ _ _ rfl ⟨Vx.msgsPre0_law hr hn, Vx.msgsPre0_law hr' hn', rfl, rfl, Vx.inAt_inG _ _, hm⟩ [q, q', q2] w _ (Vx.Rel.addV r2 3 gd)
    ⟨_, _, rfl, ⟨[.int .i64 g, .int .i64 b, .int .i64 c], rfl, rfl⟩, _, _, rfl, d, _, _, rfl, d', _, _, rfl, (by obtain ⟨a', cap', e, _⟩ := gd.sl; simp [Vx.SV.is, Vx.CV.den, e, Vx.one] : Vx.SV.is [q, q', q2] (.c (.row 2)) q2.v), rfl⟩) fun e W' he => ?_
  obtain ⟨u, ρ', rfl, hu, hr⟩ := he
  obtain rfl : .bool true = u := Option.some.inj hu
  exact ⟨rfl, Vx.Rel.toBelow hr⟩
end Go.Proofs.Ythomoliklfmnkaa
end
