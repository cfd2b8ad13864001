/- The law BatchWhole, by the walker. -/
import Derived.Test.YthomoliklfmnkaaM32
import Derived.Test.YthomoliklfmnkaaVBat9
namespace Go.Proofs.Ythomoliklfmnkaa.Vx
open Go.RowKit
set_option linter.unusedVariables false
set_option linter.unusedSimpArgs false
def tbBm : Tbl where
  T :=
    (3, ⟨1, false, [.int .i64 (0)], .int .i64, 8⟩) ::
    (4, ⟨1, false, [.ff], .bool, 1⟩) ::
    (9, ⟨1, false, [.str []], .str, 16⟩) ::
    (5, ⟨1, false, [.int .u8 (0)], .int .u8, 1⟩) ::
    (113, ⟨1, false, [.val (.slice none 0 0)], .slice 5, 24⟩) ::
    (27, ⟨1, false, [.int .i64 (0)], .int .i64, 8⟩) ::
    (118, ⟨4, true, [.str [], .str [], .int .i64 (0), .val (.slice none 0 0)], .struct [(0, (1, false)), (1, (1, false)), (2, (1, false)), (3, (1, false))], 64⟩) ::
    (56, ⟨1, false, [.val (.slice none 0 0)], .slice 118, 24⟩) ::
    (58, ⟨2, true, [.int .i64 (0), .val (.slice none 0 0)], .struct [(0, (1, false)), (1, (1, false))], 32⟩) ::
    (49, ⟨32, true, [.int .u8 (0), .int .u8 (0), .int .u8 (0), .int .u8 (0), .int .u8 (0), .int .u8 (0), .int .u8 (0), .int .u8 (0), .int .u8 (0), .int .u8 (0), .int .u8 (0), .int .u8 (0), .int .u8 (0), .int .u8 (0), .int .u8 (0), .int .u8 (0), .int .u8 (0), .int .u8 (0), .int .u8 (0), .int .u8 (0), .int .u8 (0), .int .u8 (0), .int .u8 (0), .int .u8 (0), .int .u8 (0), .int .u8 (0), .int .u8 (0), .int .u8 (0), .int .u8 (0), .int .u8 (0), .int .u8 (0), .int .u8 (0)], .array 32 5, 32⟩) ::
    (116, ⟨1, false, [.val (.slice none 0 0)], .slice 49, 24⟩) ::
    (60, ⟨50, true, [.int .i64 (0), .int .i64 (0), .int .i64 (0), .int .u8 (0), .int .u8 (0), .int .u8 (0), .int .u8 (0), .int .u8 (0), .int .u8 (0), .int .u8 (0), .int .u8 (0), .int .u8 (0), .int .u8 (0), .int .u8 (0), .int .u8 (0), .int .u8 (0), .int .u8 (0), .int .u8 (0), .int .u8 (0), .int .u8 (0), .int .u8 (0), .int .u8 (0), .int .u8 (0), .int .u8 (0), .int .u8 (0), .int .u8 (0), .int .u8 (0), .int .u8 (0), .int .u8 (0), .int .u8 (0), .int .u8 (0), .int .u8 (0), .int .u8 (0), .int .u8 (0), .int .u8 (0), .str [], .int .i64 (0), .str [], .int .i64 (0), .int .i64 (0), .str [], .int .i64 (0), .int .i64 (0), .str [], .int .i64 (0), .int .i64 (0), .int .i64 (0), .val (.slice none 0 0), .int .i64 (0), .val (.slice none 0 0)], .struct [(0, (1, false)), (1, (34, true)), (35, (8, true)), (43, (1, false)), (44, (1, false)), (45, (1, false)), (46, (2, true)), (48, (2, true))], 240⟩) ::
    (38, ⟨1, false, [.val (.slice none 0 0)], .slice 60, 24⟩) ::
    (51, ⟨34, true, [.int .i64 (0), .int .i64 (0), .int .u8 (0), .int .u8 (0), .int .u8 (0), .int .u8 (0), .int .u8 (0), .int .u8 (0), .int .u8 (0), .int .u8 (0), .int .u8 (0), .int .u8 (0), .int .u8 (0), .int .u8 (0), .int .u8 (0), .int .u8 (0), .int .u8 (0), .int .u8 (0), .int .u8 (0), .int .u8 (0), .int .u8 (0), .int .u8 (0), .int .u8 (0), .int .u8 (0), .int .u8 (0), .int .u8 (0), .int .u8 (0), .int .u8 (0), .int .u8 (0), .int .u8 (0), .int .u8 (0), .int .u8 (0), .int .u8 (0), .int .u8 (0)], .struct [(0, (1, false)), (1, (1, false)), (2, (32, true))], 48⟩) ::
    (55, ⟨8, true, [.str [], .int .i64 (0), .str [], .int .i64 (0), .int .i64 (0), .str [], .int .i64 (0), .int .i64 (0)], .struct [(0, (2, true)), (2, (2, true)), (4, (1, false)), (5, (1, false)), (6, (1, false)), (7, (1, false))], 88⟩) ::
    (53, ⟨2, true, [.str [], .int .i64 (0)], .struct [(0, (1, false)), (1, (1, false))], 24⟩) ::
    (120, ⟨2, true, [.val (.slice none 0 0), .ff], .struct [(0, (1, false)), (1, (1, false))], 32⟩) ::
    (105, ⟨1, false, [.val (.pointer none)], .ptr 120, 8⟩) ::
    (39, ⟨1, false, [.val (.slice none 0 0)], .slice 3, 24⟩) ::
    (41, ⟨1, false, [.val (.slice none 0 0)], .slice 39, 24⟩) ::
    (37, ⟨3, true, [.int .i64 (0), .int .i64 (0), .int .i64 (0)], .struct [(0, (1, false)), (1, (1, false)), (2, (1, false))], 24⟩) ::
    (104, ⟨1, false, [.val (.map none)], .map 3 3, 8⟩) ::
    []
  F :=
    (49, [0, 0, 0, 0, 0, 0, 0, 0, 0, 0, 0, 0, 0, 0, 0, 0, 0, 0, 0, 0, 0, 0, 0, 0, 0, 0, 0, 0, 0, 0, 0, 0]) ::
    (55, [1, 0, 1, 0, 0, 1, 0, 0]) ::
    (51, [0, 0, 0, 0, 0, 0, 0, 0, 0, 0, 0, 0, 0, 0, 0, 0, 0, 0, 0, 0, 0, 0, 0, 0, 0, 0, 0, 0, 0, 0, 0, 0, 0, 0]) ::
    []
  mks := true

theorem tbBm_ok : tbBm.Ok Try.prog where
  T :=
    TblOk.cons (by kernel_rfl) <|
    TblOk.cons (by kernel_rfl) <|
    TblOk.cons (by kernel_rfl) <|
    TblOk.cons (by kernel_rfl) <|
    TblOk.cons (by kernel_rfl) <|
    TblOk.cons (by kernel_rfl) <|
    TblOk.cons (by kernel_rfl) <|
    TblOk.cons (by kernel_rfl) <|
    TblOk.cons (by kernel_rfl) <|
    TblOk.cons (by kernel_rfl) <|
    TblOk.cons (by kernel_rfl) <|
    TblOk.cons (by kernel_rfl) <|
    TblOk.cons (by kernel_rfl) <|
    TblOk.cons (by kernel_rfl) <|
    TblOk.cons (by kernel_rfl) <|
    TblOk.cons (by kernel_rfl) <|
    TblOk.cons (by kernel_rfl) <|
    TblOk.cons (by kernel_rfl) <|
    TblOk.cons (by kernel_rfl) <|
    TblOk.cons (by kernel_rfl) <|
    TblOk.cons (by kernel_rfl) <|
    TblOk.cons (by kernel_rfl) <|
    TblOk.nil _
  F :=
    FlatsOk.cons (FlatOk.of (D := .array 32 5) 6 (by decide) (by kernel_rfl) (by kernel_rfl) rfl (by kernel_rfl)) <|
    FlatsOk.cons (FlatOk.of (D := .struct (Try.prog.fieldsOf 55)) 6 (by decide) (by kernel_rfl) (by kernel_rfl) rfl (by kernel_rfl)) <|
    FlatsOk.cons (FlatOk.of (D := .struct (Try.prog.fieldsOf 51)) 6 (by decide) (by kernel_rfl) (by kernel_rfl) rfl (by kernel_rfl)) <|
    FlatsOk.nil _

def tkI (l : List Int) (k : Nat) : List Int := l.take k
def txK (K H : List PMsg) (t : List Int) (k : Nat) : List PMsg := H ++ (t.take k).map (placeM K)
theorem tkI_snoc {l : List Int} {k : Nat} (h : k < l.length) : tkI l (k + 1) = tkI l k ++ [iA l k] := take_snoc h
theorem txK_snoc {K H : List PMsg} {t : List Int} {k : Nat} (h : k < t.length) : txK K H t (k + 1) = txK K H t k ++ [placeM K (iA t k)] := by
  unfold txK
  rw [take_snoc h, List.map_append, ← List.append_assoc]
  rfl
theorem txK_len {K H : List PMsg} {t : List Int} {k : Nat} (h : k ≤ t.length) : (txK K H t k).length = H.length + k := by
  unfold txK
  rw [List.length_append, List.length_map, List.length_take]
  omega
/-- The transactions, one behind the other. -/
structure LW0 (T : List (List Int)) where
  i : Nat
  p : Nat
  h1 : i ≤ T.length
  hp : p = (T.take i).flatten.length
/-- The places of one transaction. -/
structure LW2 (t : List Int) (p n0 : Nat) where
  k : Nat
  q : Nat
  nm : Nat
  h1 : k ≤ t.length
  hq : q = p + k
  hm : nm = n0 + k
/-- What is skipped. -/
structure LW4 (A : List Int) where
  i : Nat
  h1 : i ≤ A.length
/-- Is there one of its group ahead? -/
structure LW6 (A Z : List Int) (x : Int) (i : Nat) where
  k : Nat
  b : Bool
  h1 : k ≤ i
  hb : b = decide (0 < iA Z x.toNat ∧ ∃ j, j < k ∧ iA Z (iA A j).toNat = iA Z x.toNat)
theorem why_succ {A Z : List Int} {x : Int} {k : Nat} : decide (0 < iA Z x.toNat ∧ ∃ j, j < k + 1 ∧ iA Z (iA A j).toNat = iA Z x.toNat) = (decide (0 < iA Z x.toNat ∧ ∃ j, j < k ∧ iA Z (iA A j).toNat = iA Z x.toNat) || (decide (0 < iA Z x.toNat) && decide (iA Z (iA A k).toNat = iA Z x.toNat))) := by
  rw [Bool.eq_iff_iff]
  simp only [Bool.or_eq_true, Bool.and_eq_true, decide_eq_true_iff]
  constructor
  · rintro ⟨h0, j, hj, e⟩
    rcases Nat.lt_succ_iff_lt_or_eq.1 hj with h1 | rfl
    · exact Or.inl ⟨h0, j, h1, e⟩
    · exact Or.inr ⟨h0, e⟩
  · rintro (⟨h0, j, hj, e⟩ | ⟨h0, e⟩)
    · exact ⟨h0, j, by omega, e⟩
    · exact ⟨h0, k, by omega, e⟩
theorem seen_no {P Q : List Int} {j : Nat} (h1 : (j : Int) ∉ P) (h2 : (j : Int) ∉ Q) : seenV P Q j = 0 := by
  unfold seenV
  rw [if_neg h1, if_neg h2]
theorem seen_ne {P Q : List Int} {j : Nat} (h : (j : Int) ∈ Q ∨ (j : Int) ∈ P) : seenV P Q j ≠ 0 := by
  unfold seenV
  split
  · decide
  · rename_i h1
    rw [if_pos (h.resolve_right h1)]
    decide
theorem seen_is {P Q : List Int} {j : Nat} (h : seenV P Q j = 1) : (j : Int) ∈ P := by
  unfold seenV at h
  split at h
  · assumption
  · split at h <;> cases h
/-- All messages. -/
structure LW8 (n : Nat) where
  i : Nat
  h1 : i ≤ n
def sBatchWhole : SpecF
  | [.agg [.int .i64 g, .int .i64 b, .int .i64 c], .c (.row 0), .c (.row 1), .c (.row 2)], [.data false ty sz n get, .data false ty' sz' n' get', .elems it one n2 get2] => some (msgsPre0 ty sz n get ∧ msgsPre0 ty' sz' n' get' ∧ inPre2b it one n2 get2, .c .tt, [.dead, .dead, .dead])
  | _, _ => none

set_option maxRecDepth 100000 in
set_option maxHeartbeats 32000000 in
theorem batchWholeP : Fn Try.prog 5 [] [(60, 250), (60, 250), (3, 1)] sBatchWhole := by
  have hC : CtsOk Try.prog [(14, appFn [] [] sFirst28), (15, appFn [] [(60, 250)] sLightMs), (16, appFn [] [(60, 250), (60, 250), (3, 1)] sCut), (20, appFn [] [(60, 250)] sFits)] := CtsOk.cons (Fn.ct first28P) <| CtsOk.cons (Fn.ct lightMsP) <| CtsOk.cons (Fn.ct cutP) <| CtsOk.cons (Fn.ct fitsP) <| CtsOk.nil _
  refine Fn.of (E := tbBm) [] 0 [(32, [(9999, true), (0, true), (1, true), (3, true), (4, true), (5, true), (3002, false), (6, false), (7, false), (8, false), (9, false), (10, true), (2999, false), (6, false), (3002, false), (7, false), (8, false), (9, false), (10, true), (2999, false), (7, false), (2, false), (8, false), (9, false), (10, true), (2999, false)]), (37, [(0, true), (1, true), (2, true), (3, true), (4, true), (5, true), (6, true), (7, true), (8, true), (9, true), (10, true), (11, true), (12, true), (13, true), (14, true), (15, true), (16, true), (17, true), (18, true), (19, true), (20, true), (21, true), (22, true)]), (43, [(9999, true), (0, true), (1, true), (2, true), (3, true), (4, true), (5, true), (6, true), (7, true), (8, true), (9, true), (10, true), (11, true), (12, true), (13, true), (15, true), (16, true), (17, true), (3014, false), (18, false), (19, false), (20, false), (21, false), (22, true), (23, true), (24, true), (2999, false), (18, false), (3014, false), (19, false), (20, false), (21, false), (22, true), (23, true), (24, true), (2999, false), (19, false), (14, false), (20, false), (21, false), (22, true), (23, true), (24, true), (2999, false)])] tbBm_ok hC (by kernel_rfl) Try.func5 rfl rfl rfl (by kernel_rfl) (by kernel_rfl) 3 5 1 ?_ ?_
  · intro args h pre r h' hs
    unfold sBatchWhole at hs
    split at hs
    · cases hs; exact ⟨rfl, rfl, Nat.le_of_ble_eq_true rfl⟩
    · cases hs
  · intro args h pre r h' hs hp
    unfold sBatchWhole at hs
    split at hs
    rotate_left
    · cases hs
    rename_i g b c ty sz n get ty' sz' n' get' it one n2 get2
    cases hs
    obtain ⟨⟨rfl, rfl, hst, hraw, hm⟩, ⟨rfl, rfl, hst', hraw', hm'⟩, ⟨rfl, rfl, hin, hi2⟩⟩ := hp
    have k0 := msgs0 hst hraw
    have k0' := msgs0 hst' hraw'
    refine ⟨[.data false 60 50 n (msgG false (msgsL n get)), .data false 60 50 n' (msgG false (msgsL n' get')), .elems 3 1 n2 (inG (iL n2 get2))], ⟨⟨rfl, rfl, rfl, rfl, fun i j hi hj => by rw [hst i j hi hj]; exact Cell.le_refl _⟩, ⟨rfl, rfl, rfl, rfl, fun i j hi hj => by rw [hst' i j hi hj]; exact Cell.le_refl _⟩, ⟨rfl, rfl, rfl, fun i hi => by rw [← hin.eq hi]⟩, trivial⟩, ?_⟩
    have hL : (msgsL n get).length = n := msgsL_len
    have hL' : (msgsL n' get').length = n' := msgsL_len
    have hZ : (iL n2 get2).length = n2 := iL_len
    generalize msgsL n get = L at *
    generalize msgsL n' get' = K at *
    generalize iL n2 get2 = Z at *
    clear hst hst' hin
    unfold sFirst28 sLightMs sCut sFits
    generalize hg0 : (List.length : List UInt8 → Nat) = g0
    generalize hg1 : (List.length : List Int → Nat) = g1
    generalize hg2 : (List.length : List (List Int) → Nat) = g2
    generalize hL : lft Try.prog _ = L
    try unfold leafG
    try unfold msgCl
    try unfold msgG
    try unfold msgC
    try unfold txE
    try unfold seenG
    try unfold inG
    generalize ho0 : @lK = zo0, ho1 : @lV = zo1, ho2 : @lI = zo2, ho3 : @lP = zo3, ho4 : @lN = zo4, ho5 : @pG = zo5, ho6 : @rN = zo6, ho7 : @lenL = zo7, ho8 : @gM = zo8, ho9 : @msgsL = zo9, ho10 : @msgsPre = zo10, ho11 : @msgsPre0 = zo11, ho12 : @lightMs = zo12, ho13 : @fitsM = zo13, ho14 : @skip = zo14, ho15 : @skPre = zo15, ho16 : @groupOf = zo16, ho17 : @iA = zo17, ho18 : @iL = zo18, ho19 : @pushC = zo19, ho20 : @inPre = zo20, ho21 : @placeM = zo21, ho22 : @skOf = zo22, ho23 : @cutT = zo23, ho24 : @oneM = zo24, ho25 : @txG = zo25, ho26 : @tA = zo26, ho27 : @tN = zo27, ho28 : @inPre2b = zo28, ho29 : @lastOf = zo29, ho30 : @seenV = zo30, ho31 : @txOf = zo31, ho32 : @headU = zo32, ho33 : @tkI = zo33, ho34 : @txK = zo34
    generalize hA : Arith.std = A
    cbv
    subst hA hg0 hg1 hg2 hL ho0 ho1 ho2 ho3 ho4 ho5 ho6 ho7 ho8 ho9 ho10 ho11 ho12 ho13 ho14 ho15 ho16 ho17 ho18 ho19 ho20 ho21 ho22 ho23 ho24 ho25 ho26 ho27 ho28 ho29 ho30 ho31 ho32 ho33 ho34
    try simp only [← mpGet.eq_def, ← mpSet.eq_def]
    refine Need.mk trivial fun _ => ?_
    refine Ife.mk (fun h => ?_) (fun h => ?_)
    · refine Need.mk trivial fun _ => ?_
      exact ⟨[0, 1, 2], ⟨rfl, by repeat' (first | exact trivial | exact rfl | apply And.intro | exact (fun _ _ _ _ => Cell.le_refl _) | (intro i hi; rfl) | (intro i hi; exact absurd hi (Nat.not_lt_zero _))), by decide, rfl, by repeat' (first | exact trivial | exact rfl | apply And.intro | exact (fun _ _ _ _ => Cell.le_refl _) | (intro i hi; rfl) | (intro i hi; exact absurd hi (Nat.not_lt_zero _)))⟩⟩
    replace h : ¬ (1 : Int) < @Nat.cast Int instNatCastInt n := of_decide_eq_false (p := (1 : Int) < (n : Int)) h
    refine Ife.mk (fun h' => ?_) (fun h' => ?_)
    · refine Need.mk trivial fun _ => ?_
      exact ⟨[0, 1, 2], ⟨rfl, by repeat' (first | exact trivial | exact rfl | apply And.intro | exact (fun _ _ _ _ => Cell.le_refl _) | (intro i hi; rfl) | (intro i hi; exact absurd hi (Nat.not_lt_zero _))), by decide, rfl, by repeat' (first | exact trivial | exact rfl | apply And.intro | exact (fun _ _ _ _ => Cell.le_refl _) | (intro i hi; rfl) | (intro i hi; exact absurd hi (Nat.not_lt_zero _)))⟩⟩
    replace h' : ¬ (40 : Int) < @Nat.cast Int instNatCastInt n' := of_decide_eq_false (p := (40 : Int) < (n' : Int)) h'
    refine Need.mk (msgsPre0_n hL hraw hm) fun _ => ?_
    rw [k0]
    refine Ife.mk (fun hl => ?_) (fun hl => ?_)
    · refine Need.mk trivial fun _ => ?_
      exact ⟨[0, 1, 2], ⟨rfl, by repeat' (first | exact trivial | exact rfl | apply And.intro | exact (fun _ _ _ _ => Cell.le_refl _) | (intro i hi; rfl) | (intro i hi; exact absurd hi (Nat.not_lt_zero _))), by decide, rfl, by repeat' (first | exact trivial | exact rfl | apply And.intro | exact (fun _ _ _ _ => Cell.le_refl _) | (intro i hi; rfl) | (intro i hi; exact absurd hi (Nat.not_lt_zero _)))⟩⟩
    replace hl : (!lightMs L) = false := hl
    rw [Bool.not_eq_false'] at hl
    obtain ⟨-, hok⟩ := lightMs_ok hl hraw
    refine Need.mk (msgsPre0_n hL' hraw' hm') fun _ => ?_
    rw [k0']
    refine Ife.mk (fun hl' => ?_) (fun hl' => ?_)
    · refine Need.mk trivial fun _ => ?_
      exact ⟨[0, 1, 2], ⟨rfl, by repeat' (first | exact trivial | exact rfl | apply And.intro | exact (fun _ _ _ _ => Cell.le_refl _) | (intro i hi; rfl) | (intro i hi; exact absurd hi (Nat.not_lt_zero _))), by decide, rfl, by repeat' (first | exact trivial | exact rfl | apply And.intro | exact (fun _ _ _ _ => Cell.le_refl _) | (intro i hi; rfl) | (intro i hi; exact absurd hi (Nat.not_lt_zero _)))⟩⟩
    replace hl' : (!lightMs K) = false := hl'
    rw [Bool.not_eq_false'] at hl'
    obtain ⟨-, hok'⟩ := lightMs_ok hl' hraw'
    refine Ife.mk (fun h2 => ?_) (fun h2 => ?_)
    · refine Need.mk trivial fun _ => ?_
      exact ⟨[0, 1, 2], ⟨rfl, by repeat' (first | exact trivial | exact rfl | apply And.intro | exact (fun _ _ _ _ => Cell.le_refl _) | (intro i hi; rfl) | (intro i hi; exact absurd hi (Nat.not_lt_zero _))), by decide, rfl, by repeat' (first | exact trivial | exact rfl | apply And.intro | exact (fun _ _ _ _ => Cell.le_refl _) | (intro i hi; rfl) | (intro i hi; exact absurd hi (Nat.not_lt_zero _)))⟩⟩
    have h2' : n2 = n' := by
      have h0 : (!decide ((n2 : Int) = (n' : Int))) = false := h2
      have h1 : (n2 : Int) = (n' : Int) := by simpa using h0
      omega
    have pU := msgsPre_n (fr := false) hL hok (by omega : n ≤ 1000000)
    have eU := msgsL_n (fr := false) hL hok
    have pK := msgsPre_n (fr := false) hL' hok' (by omega : n' ≤ 1000000)
    have eK := msgsL_n (fr := false) hL' hok'
    have eZ : iL n2 (inG Z) = Z := by rw [← hZ]; exact iL_inG Z
    have pZ : inPre 3 1 n2 (inG Z) := ⟨rfl, rfl, inAt_inG _ _, by omega⟩
    have pS : skPre n n' := ⟨by omega, by omega⟩
    have hnn1 : n ≤ 1 := by omega
    have hnn2 : n' ≤ 40 := by omega
    refine Need.mk ⟨pU, pK, pZ, pS⟩ fun _ => ?_
    generalize hC1 : cutT g b c _ _ _ = T
    generalize hS1 : skOf g b c _ _ _ = SA
    replace hC1 : cutT g b c (oneM L) K Z = T := Eq.trans (congrArg (cutT g b c (oneM L) K) eZ.symm) hC1
    replace hS1 : skOf g b c (oneM L) K Z = SA := Eq.trans (congrArg (skOf g b c (oneM L) K) eZ.symm) hS1
    have hU : oneM L = L := List.take_of_length_le (by omega)
    rw [hU] at hC1 hS1
    have hSk := skip_ok (F := fitsWith g b c L K) (G := groupOf K.length Z) K.length
    rw [show skip (fitsWith g b c L K) (groupOf K.length Z) K.length = SA from hS1, hL'] at hSk
    obtain ⟨lg, A, R⟩ := SA
    have hflat : T.flatten = R := by
      have h := cutT_flat (g := g) (b := b) (c := c) (U := L) (M := K) (gs := Z)
      rw [hC1, hS1] at h
      exact h
    have hne : ∀ i, i < T.length → 0 < tN T i := fun i hi => by
      have h := cutT_ne (g := g) (b := b) (c := c) (U := L) (M := K) (gs := Z)
      rw [hC1] at h
      refine List.length_pos_iff.2 (h (tA T i) ?_)
      simp [tA, List.getD, hi]
    have hfit : ∀ i, i < T.length → fitsM g b c (txOf (placeM K) L T i) = true := fun i hi => by
      have h := cutT_fit (g := g) (b := b) (c := c) (U := L) (M := K) (gs := Z) hok (i := i)
      rw [hC1] at h
      exact h hi
    have hTl : T.length ≤ 1000 := by
      have h := cutT_len (g := g) (b := b) (c := c) (U := L) (M := K) (gs := Z)
      rw [hC1] at h
      omega
    have hTt : ∀ i, i < T.length → tN T i ≤ 1000 := fun i hi => by
      have h := cutT_tN (g := g) (b := b) (c := c) (U := L) (M := K) (gs := Z) (i := i)
      rw [hC1] at h
      exact Nat.le_trans (h hi) (by omega)
    have hAl : A.length ≤ 1000 := by
      have h := skip_len (F := fitsWith g b c L K) (G := groupOf K.length Z) K.length
      rw [show skip (fitsWith g b c L K) (groupOf K.length Z) K.length = ⟨lg, A, R⟩ from hS1] at h
      have h2 := h.2
      replace h2 : A.length + R.length = K.length := h2
      omega
    have hG : ∀ j, groupOf n' Z j = iA Z j := fun j => by
      unfold groupOf
      rw [if_pos (hZ.trans h2')]
    have ho' : ∀ i, MsgOk (gM K i) := gM_all hok' zeroMsg_ok
    have hpo : ∀ r, MsgOk (placeM K r) := fun r => ho' _
    have hokp : ∀ j, ∀ m ∈ L ++ [gM K j], MsgOk m := fun j m hm => by
      rcases List.mem_append.1 hm with h | h
      · exact hok m h
      · rw [List.mem_singleton.1 h]; exact ho' j
    have pP := fun j => IsMs.pre (L := L ++ [gM K j]) (IsMs.push (g := msgG false L) (ls := msgCl false (gM K j)) (IsMs.msg (fr := false) hL) msgCl_old) (hokp j) (by omega)
    clear hC1 hS1
    refine Need.mk (show 0 ≤ (n' : Int) ∧ (n' : Int) = (n' : Int) ∧ (n' : Int) ≤ 16777216 ∧ (n' : Int) * ((8 : Nat) : Int) ≤ 140737488355328 by omega) fun _ => ?_
    show Runs Try.prog 3 (.loop _) _ _
    refine loop_ruleE (N := env (lft Try.prog 3) 0 .std tbBm [(14, appFn [] [] sFirst28), (15, appFn [] [(60, 250)] sLightMs), (16, appFn [] [(60, 250), (60, 250), (3, 1)] sCut), (20, appFn [] [(60, 250)] sFits)] [(32, [(9999, true), (0, true), (1, true), (3, true), (4, true), (5, true), (3002, false), (6, false), (7, false), (8, false), (9, false), (10, true), (2999, false), (6, false), (3002, false), (7, false), (8, false), (9, false), (10, true), (2999, false), (7, false), (2, false), (8, false), (9, false), (10, true), (2999, false)]), (37, [(0, true), (1, true), (2, true), (3, true), (4, true), (5, true), (6, true), (7, true), (8, true), (9, true), (10, true), (11, true), (12, true), (13, true), (14, true), (15, true), (16, true), (17, true), (18, true), (19, true), (20, true), (21, true), (22, true)]), (43, [(9999, true), (0, true), (1, true), (2, true), (3, true), (4, true), (5, true), (6, true), (7, true), (8, true), (9, true), (10, true), (11, true), (12, true), (13, true), (15, true), (16, true), (17, true), (3014, false), (18, false), (19, false), (20, false), (21, false), (22, true), (23, true), (24, true), (2999, false), (18, false), (3014, false), (19, false), (20, false), (21, false), (22, true), (23, true), (24, true), (2999, false), (19, false), (14, false), (20, false), (21, false), (22, true), (23, true), (24, true), (2999, false)])]) rfl tbBm_ok hC (fun c st K _ h => h) (by kernel_rfl) [] (X := LW0 T)
      (S := fun x => ⟨[.any, .c (.row 0), .c (.row 1), .c (.row 2), .c (.ptr 3 0), .any, .any, .any, .any, .c (.row 4), .c (.row 5), .c (.row 6), .c (.int .i64 (lastOf R x.p)), .c (.int .i64 (x.i : Int))] ++ List.replicate 205 .any, [.data false 60 50 n (msgG false L), .data false 60 50 n' (msgG false K), .elems 3 1 n2 (inG Z), .cells 37 [.int .i64 g, .int .i64 b, .int .i64 c], .data true 39 1 T.length (txE true T), .row 3 1 A.length (inG A), .row 3 1 n' (seenG (tkI R x.p) [])]⟩) (μ := fun x => T.length - x.i) ⟨0, 0, by omega, rfl⟩ (by kernel_rfl) ?h0 ?rd
    case h0 => exact StT.ofL (σ := [0, 1, 2, 3, 9, 10, 11]) ⟨rfl, by show List.Nodup [3, 10, 11]; decide, by repeat' (first | exact trivial | exact seen_nil | exact rfl | apply And.intro | exact (fun _ _ _ _ => Cell.le_refl _) | (intro i hi; rfl) | (intro i hi; exact absurd hi (Nat.not_lt_zero _))), by repeat' (first | exact trivial | exact seen_nil | exact rfl | apply And.intro | exact (fun _ _ _ _ => Cell.le_refl _) | (intro i hi; rfl) | (intro i hi; exact absurd hi (Nat.not_lt_zero _)))⟩
    rintro ⟨i, p, hi1, hp⟩
    unfold sFirst28 sLightMs sCut sFits
    generalize hg0 : (List.length : List UInt8 → Nat) = g0
    generalize hg1 : (List.length : List Int → Nat) = g1
    generalize hg2 : (List.length : List (List Int) → Nat) = g2
    generalize hL : lft Try.prog _ = L
    try dsimp only
    try unfold leafG
    try unfold msgCl
    try unfold msgG
    try unfold msgC
    try unfold txE
    try unfold seenG
    try unfold inG
    generalize ho0 : @lK = zo0, ho1 : @lV = zo1, ho2 : @lI = zo2, ho3 : @lP = zo3, ho4 : @lN = zo4, ho5 : @pG = zo5, ho6 : @rN = zo6, ho7 : @lenL = zo7, ho8 : @gM = zo8, ho9 : @msgsL = zo9, ho10 : @msgsPre = zo10, ho11 : @msgsPre0 = zo11, ho12 : @lightMs = zo12, ho13 : @fitsM = zo13, ho14 : @skip = zo14, ho15 : @skPre = zo15, ho16 : @groupOf = zo16, ho17 : @iA = zo17, ho18 : @iL = zo18, ho19 : @pushC = zo19, ho20 : @inPre = zo20, ho21 : @placeM = zo21, ho22 : @skOf = zo22, ho23 : @cutT = zo23, ho24 : @oneM = zo24, ho25 : @txG = zo25, ho26 : @tA = zo26, ho27 : @tN = zo27, ho28 : @inPre2b = zo28, ho29 : @lastOf = zo29, ho30 : @seenV = zo30, ho31 : @txOf = zo31, ho32 : @headU = zo32, ho33 : @tkI = zo33, ho34 : @txK = zo34
    generalize hA : Arith.std = A
    cbv
    subst hA hg0 hg1 hg2 hL ho0 ho1 ho2 ho3 ho4 ho5 ho6 ho7 ho8 ho9 ho10 ho11 ho12 ho13 ho14 ho15 ho16 ho17 ho18 ho19 ho20 ho21 ho22 ho23 ho24 ho25 ho26 ho27 ho28 ho29 ho30 ho31 ho32 ho33 ho34
    try simp only [← mpGet.eq_def, ← mpSet.eq_def]
    refine Ife.mk (fun hlt => ?_) (fun hlt => ?_)
    rotate_left
    · have hie : ¬ i < T.length := fun h => of_decide_eq_false (p := (i : Int) < (T.length : Int)) hlt (Int.ofNat_lt.mpr h)
      clear hlt
      have hpR : p = R.length := by rw [hp, ← hflat, List.take_of_length_le (by omega)]
      show Runs Try.prog 3 (.loop _) _ _
      refine loop_ruleE (N := env (lft Try.prog 3) 0 .std tbBm [(14, appFn [] [] sFirst28), (15, appFn [] [(60, 250)] sLightMs), (16, appFn [] [(60, 250), (60, 250), (3, 1)] sCut), (20, appFn [] [(60, 250)] sFits)] [(32, [(9999, true), (0, true), (1, true), (3, true), (4, true), (5, true), (3002, false), (6, false), (7, false), (8, false), (9, false), (10, true), (2999, false), (6, false), (3002, false), (7, false), (8, false), (9, false), (10, true), (2999, false), (7, false), (2, false), (8, false), (9, false), (10, true), (2999, false)]), (37, [(0, true), (1, true), (2, true), (3, true), (4, true), (5, true), (6, true), (7, true), (8, true), (9, true), (10, true), (11, true), (12, true), (13, true), (14, true), (15, true), (16, true), (17, true), (18, true), (19, true), (20, true), (21, true), (22, true)]), (43, [(9999, true), (0, true), (1, true), (2, true), (3, true), (4, true), (5, true), (6, true), (7, true), (8, true), (9, true), (10, true), (11, true), (12, true), (13, true), (15, true), (16, true), (17, true), (3014, false), (18, false), (19, false), (20, false), (21, false), (22, true), (23, true), (24, true), (2999, false), (18, false), (3014, false), (19, false), (20, false), (21, false), (22, true), (23, true), (24, true), (2999, false), (19, false), (14, false), (20, false), (21, false), (22, true), (23, true), (24, true), (2999, false)])]) rfl tbBm_ok hC (fun c st K _ h => h) (by kernel_rfl) [] (X := LW4 A)
        (S := fun x => ⟨[.any, .c (.row 0), .c (.row 1), .c (.row 2), .c (.ptr 3 0), .any, .any, .any, .any, .c (.row 4), .c (.row 5), .c (.row 6), .any, .any, .any, .any, .any, .c (.int .i64 (x.i : Int))] ++ List.replicate 201 .any, [.data false 60 50 n (msgG false L), .data false 60 50 n' (msgG false K), .elems 3 1 n2 (inG Z), .cells 37 [.int .i64 g, .int .i64 b, .int .i64 c], .data true 39 1 T.length (txE true T), .row 3 1 A.length (inG A), .row 3 1 n' (seenG R (tkI A x.i))]⟩) (μ := fun x => A.length - x.i) ⟨0, by omega⟩ (by kernel_rfl) ?a0 ?ard
      case a0 =>
        have hsee : ∀ j, j < n' → seenG (tkI R p) [] j = seenG R (tkI A 0) j := fun j _ => by
          rw [show tkI R p = R from List.take_of_length_le (by omega)]
          rfl
        exact StT.ofL (σ := [0, 1, 2, 3, 4, 5, 6]) ⟨rfl, by show List.Nodup [3, 5, 6]; decide, by repeat' (first | exact trivial | exact hsee | exact hmsg | exact hla | exact hlen | exact rfl | apply And.intro | exact (fun _ _ _ _ => Cell.le_refl _) | (intro i hi; rfl) | (intro i hi; exact absurd hi (Nat.not_lt_zero _))), by repeat' (first | exact trivial | exact hsee | exact hmsg | exact hla | exact hlen | exact rfl | apply And.intro | exact (fun _ _ _ _ => Cell.le_refl _) | (intro i hi; rfl) | (intro i hi; exact absurd hi (Nat.not_lt_zero _)))⟩
      clear hp hpR hie hi1 p i
      rintro ⟨i, hi1⟩
      unfold sFirst28 sLightMs sCut sFits
      generalize hg0 : (List.length : List UInt8 → Nat) = g0
      generalize hg1 : (List.length : List Int → Nat) = g1
      generalize hg2 : (List.length : List (List Int) → Nat) = g2
      generalize hL : lft Try.prog _ = L
      try dsimp only
      try unfold leafG
      try unfold msgCl
      try unfold msgG
      try unfold msgC
      try unfold txE
      try unfold seenG
      try unfold inG
      generalize ho0 : @lK = zo0, ho1 : @lV = zo1, ho2 : @lI = zo2, ho3 : @lP = zo3, ho4 : @lN = zo4, ho5 : @pG = zo5, ho6 : @rN = zo6, ho7 : @lenL = zo7, ho8 : @gM = zo8, ho9 : @msgsL = zo9, ho10 : @msgsPre = zo10, ho11 : @msgsPre0 = zo11, ho12 : @lightMs = zo12, ho13 : @fitsM = zo13, ho14 : @skip = zo14, ho15 : @skPre = zo15, ho16 : @groupOf = zo16, ho17 : @iA = zo17, ho18 : @iL = zo18, ho19 : @pushC = zo19, ho20 : @inPre = zo20, ho21 : @placeM = zo21, ho22 : @skOf = zo22, ho23 : @cutT = zo23, ho24 : @oneM = zo24, ho25 : @txG = zo25, ho26 : @tA = zo26, ho27 : @tN = zo27, ho28 : @inPre2b = zo28, ho29 : @lastOf = zo29, ho30 : @seenV = zo30, ho31 : @txOf = zo31, ho32 : @headU = zo32, ho33 : @tkI = zo33, ho34 : @txK = zo34
      generalize hA : Arith.std = A
      cbv
      subst hA hg0 hg1 hg2 hL ho0 ho1 ho2 ho3 ho4 ho5 ho6 ho7 ho8 ho9 ho10 ho11 ho12 ho13 ho14 ho15 ho16 ho17 ho18 ho19 ho20 ho21 ho22 ho23 ho24 ho25 ho26 ho27 ho28 ho29 ho30 ho31 ho32 ho33 ho34
      try simp only [← mpGet.eq_def, ← mpSet.eq_def]
      refine Ife.mk (fun hlt => ?_) (fun hlt => ?_)
      rotate_left
      · have hie : ¬ i < A.length := fun h => of_decide_eq_false (p := (i : Int) < (A.length : Int)) hlt (Int.ofNat_lt.mpr h)
        clear hlt
        have hiA : i = A.length := by omega
        show Runs Try.prog 3 (.loop _) _ _
        refine loop_ruleE (N := env (lft Try.prog 3) 0 .std tbBm [(14, appFn [] [] sFirst28), (15, appFn [] [(60, 250)] sLightMs), (16, appFn [] [(60, 250), (60, 250), (3, 1)] sCut), (20, appFn [] [(60, 250)] sFits)] [(32, [(9999, true), (0, true), (1, true), (3, true), (4, true), (5, true), (3002, false), (6, false), (7, false), (8, false), (9, false), (10, true), (2999, false), (6, false), (3002, false), (7, false), (8, false), (9, false), (10, true), (2999, false), (7, false), (2, false), (8, false), (9, false), (10, true), (2999, false)]), (37, [(0, true), (1, true), (2, true), (3, true), (4, true), (5, true), (6, true), (7, true), (8, true), (9, true), (10, true), (11, true), (12, true), (13, true), (14, true), (15, true), (16, true), (17, true), (18, true), (19, true), (20, true), (21, true), (22, true)]), (43, [(9999, true), (0, true), (1, true), (2, true), (3, true), (4, true), (5, true), (6, true), (7, true), (8, true), (9, true), (10, true), (11, true), (12, true), (13, true), (15, true), (16, true), (17, true), (3014, false), (18, false), (19, false), (20, false), (21, false), (22, true), (23, true), (24, true), (2999, false), (18, false), (3014, false), (19, false), (20, false), (21, false), (22, true), (23, true), (24, true), (2999, false), (19, false), (14, false), (20, false), (21, false), (22, true), (23, true), (24, true), (2999, false)])]) rfl tbBm_ok hC (fun c st K _ h => h) (by kernel_rfl) [] (X := LW8 n')
          (S := fun x => ⟨[.any, .c (.row 0), .c (.row 1), .c (.row 2), .c (.ptr 3 0), .any, .any, .any, .any, .c (.row 4), .c (.row 5), .c (.row 6), .any, .any, .any, .any, .any, .any, .any, .any, .any, .c (.int .i64 (x.i : Int))] ++ List.replicate 197 .any, [.data false 60 50 n (msgG false L), .data false 60 50 n' (msgG false K), .elems 3 1 n2 (inG Z), .cells 37 [.int .i64 g, .int .i64 b, .int .i64 c], .data true 39 1 T.length (txE true T), .row 3 1 A.length (inG A), .row 3 1 n' (seenG R A)]⟩) (μ := fun x => n' - x.i) ⟨0, by omega⟩ (by kernel_rfl) ?c0 ?crd
        case c0 =>
          have hsee : ∀ j, j < n' → seenG R (tkI A i) j = seenG R A j := fun j _ => by rw [show tkI A i = A from List.take_of_length_le (by omega)]
          exact StT.ofL (σ := [0, 1, 2, 3, 4, 5, 6]) ⟨rfl, by show List.Nodup [3, 5, 6]; decide, by repeat' (first | exact trivial | exact hsee | exact hmsg | exact hla | exact hlen | exact rfl | apply And.intro | exact (fun _ _ _ _ => Cell.le_refl _) | (intro i hi; rfl) | (intro i hi; exact absurd hi (Nat.not_lt_zero _))), by repeat' (first | exact trivial | exact hsee | exact hmsg | exact hla | exact hlen | exact rfl | apply And.intro | exact (fun _ _ _ _ => Cell.le_refl _) | (intro i hi; rfl) | (intro i hi; exact absurd hi (Nat.not_lt_zero _)))⟩
        clear hie hi1 hiA i
        rintro ⟨i, hi1⟩
        unfold sFirst28 sLightMs sCut
        generalize hg0 : (List.length : List UInt8 → Nat) = g0
        generalize hg1 : (List.length : List Int → Nat) = g1
        generalize hg2 : (List.length : List (List Int) → Nat) = g2
        generalize hL : lft Try.prog _ = L
        try dsimp only
        try unfold leafG
        try unfold msgCl
        try unfold msgG
        try unfold msgC
        try unfold txE
        try unfold seenG
        try unfold inG
        generalize ho0 : @lK = zo0, ho1 : @lV = zo1, ho2 : @lI = zo2, ho3 : @lP = zo3, ho4 : @lN = zo4, ho5 : @pG = zo5, ho6 : @rN = zo6, ho7 : @lenL = zo7, ho8 : @gM = zo8, ho9 : @msgsL = zo9, ho10 : @msgsPre = zo10, ho11 : @msgsPre0 = zo11, ho12 : @lightMs = zo12, ho13 : @fitsM = zo13, ho14 : @skip = zo14, ho15 : @skPre = zo15, ho16 : @groupOf = zo16, ho17 : @iA = zo17, ho18 : @iL = zo18, ho19 : @pushC = zo19, ho20 : @inPre = zo20, ho21 : @placeM = zo21, ho22 : @skOf = zo22, ho23 : @cutT = zo23, ho24 : @oneM = zo24, ho25 : @txG = zo25, ho26 : @tA = zo26, ho27 : @tN = zo27, ho28 : @inPre2b = zo28, ho29 : @lastOf = zo29, ho30 : @seenV = zo30, ho31 : @txOf = zo31, ho32 : @headU = zo32, ho33 : @tkI = zo33, ho34 : @txK = zo34
        generalize hs0 : ([(9999, true), (0, true), (1, true), (2, true), (3, true), (4, true), (5, true), (6, true), (7, true), (8, true), (9, true), (10, true), (11, true), (12, true), (13, true), (15, true), (16, true), (17, true), (3014, false), (18, false), (19, false), (20, false), (21, false), (22, true), (23, true), (24, true), (2999, false), (18, false), (3014, false), (19, false), (20, false), (21, false), (22, true), (23, true), (24, true), (2999, false), (19, false), (14, false), (20, false), (21, false), (22, true), (23, true), (24, true), (2999, false)] : List (Nat × Bool)) = zs0, hs1 : @msgGP = zs1, hs2 : @sFits = zs2
        generalize hA : Arith.std = A
        cbv
        subst hA hg0 hg1 hg2 hL ho0 ho1 ho2 ho3 ho4 ho5 ho6 ho7 ho8 ho9 ho10 ho11 ho12 ho13 ho14 ho15 ho16 ho17 ho18 ho19 ho20 ho21 ho22 ho23 ho24 ho25 ho26 ho27 ho28 ho29 ho30 ho31 ho32 ho33 ho34 hs0 hs1 hs2
        generalize hg0 : (List.length : List UInt8 → Nat) = g0
        generalize hg1 : (List.length : List Int → Nat) = g1
        generalize hg2 : (List.length : List (List Int) → Nat) = g2
        generalize hL : lft Try.prog _ = L
        try unfold leafG
        try unfold msgCl
        try unfold msgG
        try unfold msgC
        try unfold txE
        try unfold seenG
        try unfold inG
        generalize ho0 : @lK = zo0, ho1 : @lV = zo1, ho2 : @lI = zo2, ho3 : @lP = zo3, ho4 : @lN = zo4, ho5 : @pG = zo5, ho6 : @rN = zo6, ho7 : @lenL = zo7, ho8 : @gM = zo8, ho9 : @msgsL = zo9, ho10 : @msgsPre = zo10, ho11 : @msgsPre0 = zo11, ho12 : @lightMs = zo12, ho13 : @fitsM = zo13, ho14 : @skip = zo14, ho15 : @skPre = zo15, ho16 : @groupOf = zo16, ho17 : @iA = zo17, ho18 : @iL = zo18, ho19 : @pushC = zo19, ho20 : @inPre = zo20, ho21 : @placeM = zo21, ho22 : @skOf = zo22, ho23 : @cutT = zo23, ho24 : @oneM = zo24, ho25 : @txG = zo25, ho26 : @tA = zo26, ho27 : @tN = zo27, ho28 : @inPre2b = zo28, ho29 : @lastOf = zo29, ho30 : @seenV = zo30, ho31 : @txOf = zo31, ho32 : @headU = zo32, ho33 : @tkI = zo33, ho34 : @txK = zo34
        generalize hs0 : @msgGP = zs0, hs1 : @sFits = zs1
        generalize hA : Arith.std = A
        cbv
        subst hA hg0 hg1 hg2 hL ho0 ho1 ho2 ho3 ho4 ho5 ho6 ho7 ho8 ho9 ho10 ho11 ho12 ho13 ho14 ho15 ho16 ho17 ho18 ho19 ho20 ho21 ho22 ho23 ho24 ho25 ho26 ho27 ho28 ho29 ho30 ho31 ho32 ho33 ho34 hs0 hs1
        generalize hg0 : (List.length : List UInt8 → Nat) = g0
        generalize hg1 : (List.length : List Int → Nat) = g1
        generalize hg2 : (List.length : List (List Int) → Nat) = g2
        generalize hL : lft Try.prog _ = L
        try unfold leafG
        try unfold msgCl
        try unfold msgG
        try unfold msgC
        try unfold txE
        try unfold seenG
        try unfold inG
        generalize ho0 : @lK = zo0, ho1 : @lV = zo1, ho2 : @lI = zo2, ho3 : @lP = zo3, ho4 : @lN = zo4, ho5 : @pG = zo5, ho6 : @rN = zo6, ho7 : @lenL = zo7, ho8 : @gM = zo8, ho9 : @msgsL = zo9, ho10 : @msgsPre = zo10, ho11 : @msgsPre0 = zo11, ho12 : @lightMs = zo12, ho13 : @fitsM = zo13, ho14 : @skip = zo14, ho15 : @skPre = zo15, ho16 : @groupOf = zo16, ho17 : @iA = zo17, ho18 : @iL = zo18, ho19 : @pushC = zo19, ho20 : @inPre = zo20, ho21 : @placeM = zo21, ho22 : @skOf = zo22, ho23 : @cutT = zo23, ho24 : @oneM = zo24, ho25 : @txG = zo25, ho26 : @tA = zo26, ho27 : @tN = zo27, ho28 : @inPre2b = zo28, ho29 : @lastOf = zo29, ho30 : @seenV = zo30, ho31 : @txOf = zo31, ho32 : @headU = zo32, ho33 : @tkI = zo33, ho34 : @txK = zo34
        generalize hs0 : @sFits = zs0
        generalize hA : Arith.std = A
        cbv
        subst hA hg0 hg1 hg2 hL ho0 ho1 ho2 ho3 ho4 ho5 ho6 ho7 ho8 ho9 ho10 ho11 ho12 ho13 ho14 ho15 ho16 ho17 ho18 ho19 ho20 ho21 ho22 ho23 ho24 ho25 ho26 ho27 ho28 ho29 ho30 ho31 ho32 ho33 ho34 hs0
        unfold sFits
        generalize hg0 : (List.length : List UInt8 → Nat) = g0
        generalize hg1 : (List.length : List Int → Nat) = g1
        generalize hg2 : (List.length : List (List Int) → Nat) = g2
        generalize hL : lft Try.prog _ = L
        try unfold leafG
        try unfold msgCl
        try unfold msgG
        try unfold msgC
        try unfold txE
        try unfold seenG
        try unfold inG
        generalize ho0 : @lK = zo0, ho1 : @lV = zo1, ho2 : @lI = zo2, ho3 : @lP = zo3, ho4 : @lN = zo4, ho5 : @pG = zo5, ho6 : @rN = zo6, ho7 : @lenL = zo7, ho8 : @gM = zo8, ho9 : @msgsL = zo9, ho10 : @msgsPre = zo10, ho11 : @msgsPre0 = zo11, ho12 : @lightMs = zo12, ho13 : @fitsM = zo13, ho14 : @skip = zo14, ho15 : @skPre = zo15, ho16 : @groupOf = zo16, ho17 : @iA = zo17, ho18 : @iL = zo18, ho19 : @pushC = zo19, ho20 : @inPre = zo20, ho21 : @placeM = zo21, ho22 : @skOf = zo22, ho23 : @cutT = zo23, ho24 : @oneM = zo24, ho25 : @txG = zo25, ho26 : @tA = zo26, ho27 : @tN = zo27, ho28 : @inPre2b = zo28, ho29 : @lastOf = zo29, ho30 : @seenV = zo30, ho31 : @txOf = zo31, ho32 : @headU = zo32, ho33 : @tkI = zo33, ho34 : @txK = zo34
        generalize hA : Arith.std = A
        cbv
        subst hA hg0 hg1 hg2 hL ho0 ho1 ho2 ho3 ho4 ho5 ho6 ho7 ho8 ho9 ho10 ho11 ho12 ho13 ho14 ho15 ho16 ho17 ho18 ho19 ho20 ho21 ho22 ho23 ho24 ho25 ho26 ho27 ho28 ho29 ho30 ho31 ho32 ho33 ho34
        try simp only [← mpGet.eq_def, ← mpSet.eq_def]
        refine Ife.mk (fun hlt => ?_) (fun hlt => ?_)
        rotate_left
        · skip
          exact ⟨[0, 1, 2], ⟨rfl, by repeat' (first | exact trivial | exact rfl | apply And.intro | exact (fun _ _ _ _ => Cell.le_refl _) | (intro i hi; rfl) | (intro i hi; exact absurd hi (Nat.not_lt_zero _))), by decide, rfl, by repeat' (first | exact trivial | exact rfl | apply And.intro | exact (fun _ _ _ _ => Cell.le_refl _) | (intro i hi; rfl) | (intro i hi; exact absurd hi (Nat.not_lt_zero _)))⟩⟩
        have hi : i < n' := Int.ofNat_lt.mp (of_decide_eq_true (p := (i : Int) < (n' : Int)) hlt)
        clear hlt
        have ixi : 0 ≤ (i : Int) ∧ (i : Int) < (n' : Int) := ⟨Int.natCast_nonneg i, Int.ofNat_lt.mpr hi⟩
        refine Need.mk ixi fun _ => Need.mk hi fun _ => ?_
        have hsn := seen_ne (P := R) (Q := A) (j := i) (hSk.all i hi)
        refine Ife.no (decide_eq_false hsn) ?_
        refine Need.mk ixi fun _ => Need.mk hi fun _ => ?_
        refine Ife.mk (fun h1 => ?_) (fun h1 => ?_)
        · have hR := seen_is (of_decide_eq_true (p := seenV R A i = 1) h1)
          have hF := (hSk.br _ hR).2
          replace hF : fitsM g b c (L ++ [gM K i]) = true := hF
          have hfi := (congrArg (fitsM g b c) (pP i).2).trans hF
          have n1 : 0 + n ≤ maxLen ∧ (0 + n) * 240 ≤ 140737488355328 := by unfold maxLen; omega
          have n3 : n + 1 ≤ maxLen ∧ (n + 1) * 240 ≤ 140737488355328 := by unfold maxLen; omega
          refine Need.mk ixi fun _ => ?_
          refine ⟨?_, Need.mk hi fun _ => ⟨?_, ?_⟩⟩
          · refine Need.mk n1 fun _ => Need.mk hi fun _ => Need.mk ⟨n3, trivial⟩ fun _ => Need.mk (pP i).1 fun _ => ?_
            refine Ife.no (congrArg (fun b => !b) hfi) ?_
            refine Need.mk (by show fitStd .i64 ((i : Int) + 1); unfold fitStd; omega) fun _ => ?_
            refine ⟨⟨i + 1, hi⟩, (by show n' - (i + 1) < n' - i; omega), ?_⟩
            exact StT.ofL (σ := [0, 1, 2, 3, 4, 5, 6]) ⟨rfl, by show List.Nodup [3, 5, 6]; decide, by repeat' (first | exact trivial | exact rfl | apply And.intro | exact (fun _ _ _ _ => Cell.le_refl _) | (intro i hi; rfl) | (intro i hi; exact absurd hi (Nat.not_lt_zero _))), by repeat' (first | exact trivial | exact rfl | apply And.intro | exact (fun _ _ _ _ => Cell.le_refl _) | (intro i hi; rfl) | (intro i hi; exact absurd hi (Nat.not_lt_zero _)))⟩
          · refine Need.mk n1 fun _ => Need.mk ⟨n3, trivial⟩ fun _ => Need.mk (pP i).1 fun _ => ?_
            refine Ife.no (congrArg (fun b => !b) hfi) ?_
            refine Need.mk (by show fitStd .i64 ((i : Int) + 1); unfold fitStd; omega) fun _ => ?_
            refine ⟨⟨i + 1, hi⟩, (by show n' - (i + 1) < n' - i; omega), ?_⟩
            exact StT.ofL (σ := [0, 1, 2, 3, 4, 5, 6]) ⟨rfl, by show List.Nodup [3, 5, 6]; decide, by repeat' (first | exact trivial | exact rfl | apply And.intro | exact (fun _ _ _ _ => Cell.le_refl _) | (intro i hi; rfl) | (intro i hi; exact absurd hi (Nat.not_lt_zero _))), by repeat' (first | exact trivial | exact rfl | apply And.intro | exact (fun _ _ _ _ => Cell.le_refl _) | (intro i hi; rfl) | (intro i hi; exact absurd hi (Nat.not_lt_zero _)))⟩
          · refine Need.mk n1 fun _ => Need.mk ⟨n3, trivial⟩ fun _ => Need.mk (pP i).1 fun _ => ?_
            refine Ife.no (congrArg (fun b => !b) hfi) ?_
            refine Need.mk (by show fitStd .i64 ((i : Int) + 1); unfold fitStd; omega) fun _ => ?_
            refine ⟨⟨i + 1, hi⟩, (by show n' - (i + 1) < n' - i; omega), ?_⟩
            exact StT.ofL (σ := [0, 1, 2, 3, 4, 5, 6]) ⟨rfl, by show List.Nodup [3, 5, 6]; decide, by repeat' (first | exact trivial | exact rfl | apply And.intro | exact (fun _ _ _ _ => Cell.le_refl _) | (intro i hi; rfl) | (intro i hi; exact absurd hi (Nat.not_lt_zero _))), by repeat' (first | exact trivial | exact rfl | apply And.intro | exact (fun _ _ _ _ => Cell.le_refl _) | (intro i hi; rfl) | (intro i hi; exact absurd hi (Nat.not_lt_zero _)))⟩
        · refine ⟨?_, ?_, ?_⟩
          · skip
            refine Need.mk (by show fitStd .i64 ((i : Int) + 1); unfold fitStd; omega) fun _ => ?_
            refine ⟨⟨i + 1, hi⟩, (by show n' - (i + 1) < n' - i; omega), ?_⟩
            exact StT.ofL (σ := [0, 1, 2, 3, 4, 5, 6]) ⟨rfl, by show List.Nodup [3, 5, 6]; decide, by repeat' (first | exact trivial | exact rfl | apply And.intro | exact (fun _ _ _ _ => Cell.le_refl _) | (intro i hi; rfl) | (intro i hi; exact absurd hi (Nat.not_lt_zero _))), by repeat' (first | exact trivial | exact rfl | apply And.intro | exact (fun _ _ _ _ => Cell.le_refl _) | (intro i hi; rfl) | (intro i hi; exact absurd hi (Nat.not_lt_zero _)))⟩
          · skip
            refine Need.mk (by show fitStd .i64 ((i : Int) + 1); unfold fitStd; omega) fun _ => ?_
            refine ⟨⟨i + 1, hi⟩, (by show n' - (i + 1) < n' - i; omega), ?_⟩
            exact StT.ofL (σ := [0, 1, 2, 3, 4, 5, 6]) ⟨rfl, by show List.Nodup [3, 5, 6]; decide, by repeat' (first | exact trivial | exact rfl | apply And.intro | exact (fun _ _ _ _ => Cell.le_refl _) | (intro i hi; rfl) | (intro i hi; exact absurd hi (Nat.not_lt_zero _))), by repeat' (first | exact trivial | exact rfl | apply And.intro | exact (fun _ _ _ _ => Cell.le_refl _) | (intro i hi; rfl) | (intro i hi; exact absurd hi (Nat.not_lt_zero _)))⟩
          · skip
            refine Need.mk (by show fitStd .i64 ((i : Int) + 1); unfold fitStd; omega) fun _ => ?_
            refine ⟨⟨i + 1, hi⟩, (by show n' - (i + 1) < n' - i; omega), ?_⟩
            exact StT.ofL (σ := [0, 1, 2, 3, 4, 5, 6]) ⟨rfl, by show List.Nodup [3, 5, 6]; decide, by repeat' (first | exact trivial | exact rfl | apply And.intro | exact (fun _ _ _ _ => Cell.le_refl _) | (intro i hi; rfl) | (intro i hi; exact absurd hi (Nat.not_lt_zero _))), by repeat' (first | exact trivial | exact rfl | apply And.intro | exact (fun _ _ _ _ => Cell.le_refl _) | (intro i hi; rfl) | (intro i hi; exact absurd hi (Nat.not_lt_zero _)))⟩
      have hi : i < A.length := Int.ofNat_lt.mp (of_decide_eq_true (p := (i : Int) < (A.length : Int)) hlt)
      clear hlt
      have ixi : 0 ≤ (i : Int) ∧ (i : Int) < (A.length : Int) := ⟨Int.natCast_nonneg i, Int.ofNat_lt.mpr hi⟩
      refine Need.mk ixi fun _ => Need.mk hi fun _ => ?_
      have hmem := iA_mem hi
      have hbl := hSk.bl _ hmem
      have hwhy := hSk.why i hi
      generalize hx : iA A _ = x
      replace hx : iA A i = x := hx
      replace hmem : iA A i ∈ A := hmem
      replace hbl : 0 ≤ iA A i ∧ iA A i < (n' : Int) := hbl
      replace hwhy : fitsWith g b c L K (iA A i).toNat = true → 0 < groupOf n' Z (iA A i).toNat ∧ ∃ j, j < i ∧ groupOf n' Z (iA A j).toNat = groupOf n' Z (iA A i).toNat := hwhy
      rw [hx] at hmem hbl hwhy
      obtain ⟨gx, rfl⟩ : ∃ gx : Nat, x = (gx : Int) := ⟨x.toNat, by omega⟩
      have hgx : gx < n' := by omega
      have ixx : 0 ≤ (gx : Int) ∧ (gx : Int) < (n' : Int) := hbl
      refine Ife.no (decide_eq_false (by omega : ¬ (gx : Int) < 0)) ?_
      refine Ife.no (decide_eq_false (by omega : ¬ (n' : Int) ≤ (gx : Int))) ?_
      refine Need.mk ixx fun _ => Need.mk hgx fun _ => ?_
      have hnp : (gx : Int) ∉ R := fun h => hSk.dis _ hmem h
      have hnt : (gx : Int) ∉ tkI A i := by
        have := not_take hi hSk.sl
        replace this : iA A i ∉ A.take i := this
        rw [hx] at this
        exact this
      have hs0 : seenV R (tkI A i) gx = 0 := seen_no hnp hnt
      refine Ife.no (by show (!decide (seenV R (tkI A i) gx = 0)) = false; rw [hs0]; rfl) ?_
      refine Need.mk ixx fun _ => Need.mk hgx fun _ => Need.mk ixx fun _ => ?_
      have n1 : 0 + n ≤ maxLen ∧ (0 + n) * 240 ≤ 140737488355328 := by unfold maxLen; omega
      have n3 : n + 1 ≤ maxLen ∧ (n + 1) * 240 ≤ 140737488355328 := by unfold maxLen; omega
      have hsee : ∀ j, j < n' → upG (seenG R (tkI A i)) gx 0 [.int .i64 2] j = seenG R (tkI A (i + 1)) j := by
        rw [tkI_snoc hi]
        replace hx : iA A i = (gx : Int) := hx
        rw [hx]
        exact seen_two rfl hnp
      refine ⟨?_, Need.mk hgx fun _ => ⟨?_, ?_⟩⟩
      · refine Need.mk n1 fun _ => Need.mk hgx fun _ => Need.mk ⟨n3, trivial⟩ fun _ => Need.mk (pP gx).1 fun _ => ?_
        generalize hE : fitsM g b c _ = E
        replace hE : fitsWith g b c L K gx = E := (congrArg (fitsM g b c) (pP gx).2.symm).trans hE
        refine Ife.mk (fun hf => ?_) (fun hf => ?_)
        · refine Need.mk (by show fitStd .i64 ((i : Int) + 1); unfold fitStd; omega) fun _ => ?_
          refine ⟨⟨i + 1, hi⟩, (by show A.length - (i + 1) < A.length - i; omega), ?_⟩
          exact StT.ofL (σ := [0, 1, 2, 3, 4, 5, 6]) ⟨rfl, by show List.Nodup [3, 5, 6]; decide, by repeat' (first | exact trivial | exact hsee | exact hmsg | exact hla | exact hlen | exact rfl | apply And.intro | exact (fun _ _ _ _ => Cell.le_refl _) | (intro i hi; rfl) | (intro i hi; exact absurd hi (Nat.not_lt_zero _))), by repeat' (first | exact trivial | exact hsee | exact hmsg | exact hla | exact hlen | exact rfl | apply And.intro | exact (fun _ _ _ _ => Cell.le_refl _) | (intro i hi; rfl) | (intro i hi; exact absurd hi (Nat.not_lt_zero _)))⟩
        replace hf : E = true := by simpa [Arith.std] using hf
        rw [hf] at hE
        obtain ⟨hw1, j0, hw2, hw3⟩ := hwhy hE
        rw [hG, hG] at hw3
        rw [hG] at hw1
        show Runs Try.prog 3 (.loop _) _ _
        refine loop_ruleE (N := env (lft Try.prog 3) 0 .std tbBm [(14, appFn [] [] sFirst28), (15, appFn [] [(60, 250)] sLightMs), (16, appFn [] [(60, 250), (60, 250), (3, 1)] sCut), (20, appFn [] [(60, 250)] sFits)] [(32, [(9999, true), (0, true), (1, true), (3, true), (4, true), (5, true), (3002, false), (6, false), (7, false), (8, false), (9, false), (10, true), (2999, false), (6, false), (3002, false), (7, false), (8, false), (9, false), (10, true), (2999, false), (7, false), (2, false), (8, false), (9, false), (10, true), (2999, false)]), (37, [(0, true), (1, true), (2, true), (3, true), (4, true), (5, true), (6, true), (7, true), (8, true), (9, true), (10, true), (11, true), (12, true), (13, true), (14, true), (15, true), (16, true), (17, true), (18, true), (19, true), (20, true), (21, true), (22, true)]), (43, [(9999, true), (0, true), (1, true), (2, true), (3, true), (4, true), (5, true), (6, true), (7, true), (8, true), (9, true), (10, true), (11, true), (12, true), (13, true), (15, true), (16, true), (17, true), (3014, false), (18, false), (19, false), (20, false), (21, false), (22, true), (23, true), (24, true), (2999, false), (18, false), (3014, false), (19, false), (20, false), (21, false), (22, true), (23, true), (24, true), (2999, false), (19, false), (14, false), (20, false), (21, false), (22, true), (23, true), (24, true), (2999, false)])]) rfl tbBm_ok hC (fun c st K _ h => h) (by kernel_rfl) [] (X := LW6 A Z (gx : Int) i)
          (S := fun x => ⟨[.any, .c (.row 0), .c (.row 1), .c (.row 2), .c (.ptr 3 0), .any, .any, .any, .any, .c (.row 4), .c (.row 5), .c (.row 6), .any, .any, .any, .any, .any, .c (.int .i64 (i : Int)), .c (.int .i64 (gx : Int)), .c (.bool x.b), .c (.int .i64 (x.k : Int))] ++ List.replicate 198 .any, [.data false 60 50 n (msgG false L), .data false 60 50 n' (msgG false K), .elems 3 1 n2 (inG Z), .cells 37 [.int .i64 g, .int .i64 b, .int .i64 c], .data true 39 1 T.length (txE true T), .row 3 1 A.length (inG A), .row 3 1 n' (seenG R (tkI A (i + 1)))]⟩) (μ := fun x => i - x.k) ⟨0, false, by omega, by simp⟩ (by kernel_rfl) ?b0x ?brdx
        case b0x => exact StT.ofL (σ := [0, 1, 2, 3, 4, 5, 6]) ⟨rfl, by show List.Nodup [3, 5, 6]; decide, by repeat' (first | exact trivial | exact hsee | exact hmsg | exact hla | exact hlen | exact rfl | apply And.intro | exact (fun _ _ _ _ => Cell.le_refl _) | (intro i hi; rfl) | (intro i hi; exact absurd hi (Nat.not_lt_zero _))), by repeat' (first | exact trivial | exact hsee | exact hmsg | exact hla | exact hlen | exact rfl | apply And.intro | exact (fun _ _ _ _ => Cell.le_refl _) | (intro i hi; rfl) | (intro i hi; exact absurd hi (Nat.not_lt_zero _)))⟩
        rintro ⟨k, b1, hk1, hb⟩
        unfold sFirst28 sLightMs sCut sFits
        generalize hg0 : (List.length : List UInt8 → Nat) = g0
        generalize hg1 : (List.length : List Int → Nat) = g1
        generalize hg2 : (List.length : List (List Int) → Nat) = g2
        generalize hL : lft Try.prog _ = L
        try dsimp only
        try unfold leafG
        try unfold msgCl
        try unfold msgG
        try unfold msgC
        try unfold txE
        try unfold seenG
        try unfold inG
        generalize ho0 : @lK = zo0, ho1 : @lV = zo1, ho2 : @lI = zo2, ho3 : @lP = zo3, ho4 : @lN = zo4, ho5 : @pG = zo5, ho6 : @rN = zo6, ho7 : @lenL = zo7, ho8 : @gM = zo8, ho9 : @msgsL = zo9, ho10 : @msgsPre = zo10, ho11 : @msgsPre0 = zo11, ho12 : @lightMs = zo12, ho13 : @fitsM = zo13, ho14 : @skip = zo14, ho15 : @skPre = zo15, ho16 : @groupOf = zo16, ho17 : @iA = zo17, ho18 : @iL = zo18, ho19 : @pushC = zo19, ho20 : @inPre = zo20, ho21 : @placeM = zo21, ho22 : @skOf = zo22, ho23 : @cutT = zo23, ho24 : @oneM = zo24, ho25 : @txG = zo25, ho26 : @tA = zo26, ho27 : @tN = zo27, ho28 : @inPre2b = zo28, ho29 : @lastOf = zo29, ho30 : @seenV = zo30, ho31 : @txOf = zo31, ho32 : @headU = zo32, ho33 : @tkI = zo33, ho34 : @txK = zo34
        generalize hA : Arith.std = A
        cbv
        subst hA hg0 hg1 hg2 hL ho0 ho1 ho2 ho3 ho4 ho5 ho6 ho7 ho8 ho9 ho10 ho11 ho12 ho13 ho14 ho15 ho16 ho17 ho18 ho19 ho20 ho21 ho22 ho23 ho24 ho25 ho26 ho27 ho28 ho29 ho30 ho31 ho32 ho33 ho34
        try simp only [← mpGet.eq_def, ← mpSet.eq_def]
        refine Ife.mk (fun hlt => ?_) (fun hlt => ?_)
        · have hk : k < i := Int.ofNat_lt.mp (of_decide_eq_true (p := (k : Int) < (i : Int)) hlt)
          clear hlt
          have hs1 := why_succ (A := A) (Z := Z) (x := (gx : Int)) (k := k)
          rw [← hb] at hs1
          refine Ife.mk (fun hb1 => ?_) (fun hb1 => ?_)
          · replace hb1 : b1 = true := hb1
            subst hb1
            refine Need.mk (by show fitStd .i64 ((k : Int) + 1); unfold fitStd; omega) fun _ => ?_
            refine ⟨⟨k + 1, true, hk, by rw [hs1]; rfl⟩, (by show i - (k + 1) < i - k; omega), ?_⟩
            exact StT.ofL (σ := [0, 1, 2, 3, 4, 5, 6]) ⟨rfl, by show List.Nodup [3, 5, 6]; decide, by repeat' (first | exact trivial | exact rfl | apply And.intro | exact (fun _ _ _ _ => Cell.le_refl _) | (intro i hi; rfl) | (intro i hi; exact absurd hi (Nat.not_lt_zero _))), by repeat' (first | exact trivial | exact rfl | apply And.intro | exact (fun _ _ _ _ => Cell.le_refl _) | (intro i hi; rfl) | (intro i hi; exact absurd hi (Nat.not_lt_zero _)))⟩
          replace hb1 : b1 = false := hb1
          subst hb1
          have hg2 : gx < n2 := by omega
          have ix2 : 0 ≤ (gx : Int) ∧ (gx : Int) < (n2 : Int) := ⟨Int.natCast_nonneg gx, Int.ofNat_lt.mpr hg2⟩
          refine Need.mk ix2 fun _ => Need.mk hg2 fun _ => ?_
          refine Ife.mk (fun h0 => ?_) (fun h0 => ?_)
          · have h0' : decide ((0 : Int) < iA Z gx) = true := h0
            have hkA : k < A.length := by omega
            have hby := hSk.bl _ (iA_mem hkA)
            have ixk : 0 ≤ (k : Int) ∧ (k : Int) < (A.length : Int) := ⟨Int.natCast_nonneg k, Int.ofNat_lt.mpr hkA⟩
            refine Need.mk ixk fun _ => Need.mk hkA fun _ => ?_
            generalize hyy : iA A _ = y
            replace hyy : iA A k = y := hyy
            replace hby : 0 ≤ iA A k ∧ iA A k < (n' : Int) := hby
            rw [hyy] at hby hs1
            obtain ⟨yn, rfl⟩ : ∃ yn : Nat, y = (yn : Int) := ⟨y.toNat, by omega⟩
            have hy2 : yn < n2 := by omega
            refine Need.mk (show 0 ≤ (yn : Int) ∧ (yn : Int) < (n2 : Int) from ⟨Int.natCast_nonneg yn, Int.ofNat_lt.mpr hy2⟩) fun _ => Need.mk hy2 fun _ => Need.mk ix2 fun _ => Need.mk hg2 fun _ => ?_
            refine Need.mk (by show fitStd .i64 ((k : Int) + 1); unfold fitStd; omega) fun _ => ?_
            refine ⟨⟨k + 1, decide (iA Z yn = iA Z gx), hk, by rw [hs1, show decide ((0 : Int) < iA Z (gx : Int).toNat) = true from h0']; rfl⟩, (by show i - (k + 1) < i - k; omega), ?_⟩
            exact StT.ofL (σ := [0, 1, 2, 3, 4, 5, 6]) ⟨rfl, by show List.Nodup [3, 5, 6]; decide, by repeat' (first | exact trivial | exact rfl | apply And.intro | exact (fun _ _ _ _ => Cell.le_refl _) | (intro i hi; rfl) | (intro i hi; exact absurd hi (Nat.not_lt_zero _))), by repeat' (first | exact trivial | exact rfl | apply And.intro | exact (fun _ _ _ _ => Cell.le_refl _) | (intro i hi; rfl) | (intro i hi; exact absurd hi (Nat.not_lt_zero _)))⟩
          · have h0' : decide ((0 : Int) < iA Z gx) = false := h0
            refine Need.mk (by show fitStd .i64 ((k : Int) + 1); unfold fitStd; omega) fun _ => ?_
            refine ⟨⟨k + 1, false, hk, by rw [hs1, show decide ((0 : Int) < iA Z (gx : Int).toNat) = false from h0']; rfl⟩, (by show i - (k + 1) < i - k; omega), ?_⟩
            exact StT.ofL (σ := [0, 1, 2, 3, 4, 5, 6]) ⟨rfl, by show List.Nodup [3, 5, 6]; decide, by repeat' (first | exact trivial | exact rfl | apply And.intro | exact (fun _ _ _ _ => Cell.le_refl _) | (intro i hi; rfl) | (intro i hi; exact absurd hi (Nat.not_lt_zero _))), by repeat' (first | exact trivial | exact rfl | apply And.intro | exact (fun _ _ _ _ => Cell.le_refl _) | (intro i hi; rfl) | (intro i hi; exact absurd hi (Nat.not_lt_zero _)))⟩
        have hke : ¬ k < i := fun h => of_decide_eq_false (p := (k : Int) < (i : Int)) hlt (Int.ofNat_lt.mpr h)
        clear hlt
        have hb1 : b1 = true := by
          rw [hb]
          exact decide_eq_true ⟨hw1, j0, by omega, hw3⟩
        clear hb
        subst hb1
        refine Ife.no (b := Arith.std.9 true) rfl ?_
        refine Need.mk (by show fitStd .i64 ((i : Int) + 1); unfold fitStd; omega) fun _ => ?_
        refine ⟨⟨i + 1, hi⟩, (by show A.length - (i + 1) < A.length - i; omega), ?_⟩
        exact StT.ofL (σ := [0, 1, 2, 3, 4, 5, 6]) ⟨rfl, by show List.Nodup [3, 5, 6]; decide, by repeat' (first | exact trivial | exact rfl | apply And.intro | exact (fun _ _ _ _ => Cell.le_refl _) | (intro i hi; rfl) | (intro i hi; exact absurd hi (Nat.not_lt_zero _))), by repeat' (first | exact trivial | exact rfl | apply And.intro | exact (fun _ _ _ _ => Cell.le_refl _) | (intro i hi; rfl) | (intro i hi; exact absurd hi (Nat.not_lt_zero _)))⟩
      · refine Need.mk n1 fun _ => Need.mk ⟨n3, trivial⟩ fun _ => Need.mk (pP gx).1 fun _ => ?_
        generalize hE : fitsM g b c _ = E
        replace hE : fitsWith g b c L K gx = E := (congrArg (fitsM g b c) (pP gx).2.symm).trans hE
        refine Ife.mk (fun hf => ?_) (fun hf => ?_)
        · refine Need.mk (by show fitStd .i64 ((i : Int) + 1); unfold fitStd; omega) fun _ => ?_
          refine ⟨⟨i + 1, hi⟩, (by show A.length - (i + 1) < A.length - i; omega), ?_⟩
          exact StT.ofL (σ := [0, 1, 2, 3, 4, 5, 6]) ⟨rfl, by show List.Nodup [3, 5, 6]; decide, by repeat' (first | exact trivial | exact hsee | exact hmsg | exact hla | exact hlen | exact rfl | apply And.intro | exact (fun _ _ _ _ => Cell.le_refl _) | (intro i hi; rfl) | (intro i hi; exact absurd hi (Nat.not_lt_zero _))), by repeat' (first | exact trivial | exact hsee | exact hmsg | exact hla | exact hlen | exact rfl | apply And.intro | exact (fun _ _ _ _ => Cell.le_refl _) | (intro i hi; rfl) | (intro i hi; exact absurd hi (Nat.not_lt_zero _)))⟩
        replace hf : E = true := by simpa [Arith.std] using hf
        rw [hf] at hE
        obtain ⟨hw1, j0, hw2, hw3⟩ := hwhy hE
        rw [hG, hG] at hw3
        rw [hG] at hw1
        show Runs Try.prog 3 (.loop _) _ _
        refine loop_ruleE (N := env (lft Try.prog 3) 0 .std tbBm [(14, appFn [] [] sFirst28), (15, appFn [] [(60, 250)] sLightMs), (16, appFn [] [(60, 250), (60, 250), (3, 1)] sCut), (20, appFn [] [(60, 250)] sFits)] [(32, [(9999, true), (0, true), (1, true), (3, true), (4, true), (5, true), (3002, false), (6, false), (7, false), (8, false), (9, false), (10, true), (2999, false), (6, false), (3002, false), (7, false), (8, false), (9, false), (10, true), (2999, false), (7, false), (2, false), (8, false), (9, false), (10, true), (2999, false)]), (37, [(0, true), (1, true), (2, true), (3, true), (4, true), (5, true), (6, true), (7, true), (8, true), (9, true), (10, true), (11, true), (12, true), (13, true), (14, true), (15, true), (16, true), (17, true), (18, true), (19, true), (20, true), (21, true), (22, true)]), (43, [(9999, true), (0, true), (1, true), (2, true), (3, true), (4, true), (5, true), (6, true), (7, true), (8, true), (9, true), (10, true), (11, true), (12, true), (13, true), (15, true), (16, true), (17, true), (3014, false), (18, false), (19, false), (20, false), (21, false), (22, true), (23, true), (24, true), (2999, false), (18, false), (3014, false), (19, false), (20, false), (21, false), (22, true), (23, true), (24, true), (2999, false), (19, false), (14, false), (20, false), (21, false), (22, true), (23, true), (24, true), (2999, false)])]) rfl tbBm_ok hC (fun c st K _ h => h) (by kernel_rfl) [] (X := LW6 A Z (gx : Int) i)
          (S := fun x => ⟨[.any, .c (.row 0), .c (.row 1), .c (.row 2), .c (.ptr 3 0), .any, .any, .any, .any, .c (.row 4), .c (.row 5), .c (.row 6), .any, .any, .any, .any, .any, .c (.int .i64 (i : Int)), .c (.int .i64 (gx : Int)), .c (.bool x.b), .c (.int .i64 (x.k : Int))] ++ List.replicate 198 .any, [.data false 60 50 n (msgG false L), .data false 60 50 n' (msgG false K), .elems 3 1 n2 (inG Z), .cells 37 [.int .i64 g, .int .i64 b, .int .i64 c], .data true 39 1 T.length (txE true T), .row 3 1 A.length (inG A), .row 3 1 n' (seenG R (tkI A (i + 1)))]⟩) (μ := fun x => i - x.k) ⟨0, false, by omega, by simp⟩ (by kernel_rfl) ?b0y ?brdy
        case b0y => exact StT.ofL (σ := [0, 1, 2, 3, 4, 5, 6]) ⟨rfl, by show List.Nodup [3, 5, 6]; decide, by repeat' (first | exact trivial | exact hsee | exact hmsg | exact hla | exact hlen | exact rfl | apply And.intro | exact (fun _ _ _ _ => Cell.le_refl _) | (intro i hi; rfl) | (intro i hi; exact absurd hi (Nat.not_lt_zero _))), by repeat' (first | exact trivial | exact hsee | exact hmsg | exact hla | exact hlen | exact rfl | apply And.intro | exact (fun _ _ _ _ => Cell.le_refl _) | (intro i hi; rfl) | (intro i hi; exact absurd hi (Nat.not_lt_zero _)))⟩
        rintro ⟨k, b1, hk1, hb⟩
        unfold sFirst28 sLightMs sCut sFits
        generalize hg0 : (List.length : List UInt8 → Nat) = g0
        generalize hg1 : (List.length : List Int → Nat) = g1
        generalize hg2 : (List.length : List (List Int) → Nat) = g2
        generalize hL : lft Try.prog _ = L
        try dsimp only
        try unfold leafG
        try unfold msgCl
        try unfold msgG
        try unfold msgC
        try unfold txE
        try unfold seenG
        try unfold inG
        generalize ho0 : @lK = zo0, ho1 : @lV = zo1, ho2 : @lI = zo2, ho3 : @lP = zo3, ho4 : @lN = zo4, ho5 : @pG = zo5, ho6 : @rN = zo6, ho7 : @lenL = zo7, ho8 : @gM = zo8, ho9 : @msgsL = zo9, ho10 : @msgsPre = zo10, ho11 : @msgsPre0 = zo11, ho12 : @lightMs = zo12, ho13 : @fitsM = zo13, ho14 : @skip = zo14, ho15 : @skPre = zo15, ho16 : @groupOf = zo16, ho17 : @iA = zo17, ho18 : @iL = zo18, ho19 : @pushC = zo19, ho20 : @inPre = zo20, ho21 : @placeM = zo21, ho22 : @skOf = zo22, ho23 : @cutT = zo23, ho24 : @oneM = zo24, ho25 : @txG = zo25, ho26 : @tA = zo26, ho27 : @tN = zo27, ho28 : @inPre2b = zo28, ho29 : @lastOf = zo29, ho30 : @seenV = zo30, ho31 : @txOf = zo31, ho32 : @headU = zo32, ho33 : @tkI = zo33, ho34 : @txK = zo34
        generalize hA : Arith.std = A
        cbv
        subst hA hg0 hg1 hg2 hL ho0 ho1 ho2 ho3 ho4 ho5 ho6 ho7 ho8 ho9 ho10 ho11 ho12 ho13 ho14 ho15 ho16 ho17 ho18 ho19 ho20 ho21 ho22 ho23 ho24 ho25 ho26 ho27 ho28 ho29 ho30 ho31 ho32 ho33 ho34
        try simp only [← mpGet.eq_def, ← mpSet.eq_def]
        refine Ife.mk (fun hlt => ?_) (fun hlt => ?_)
        · have hk : k < i := Int.ofNat_lt.mp (of_decide_eq_true (p := (k : Int) < (i : Int)) hlt)
          clear hlt
          have hs1 := why_succ (A := A) (Z := Z) (x := (gx : Int)) (k := k)
          rw [← hb] at hs1
          refine Ife.mk (fun hb1 => ?_) (fun hb1 => ?_)
          · replace hb1 : b1 = true := hb1
            subst hb1
            refine Need.mk (by show fitStd .i64 ((k : Int) + 1); unfold fitStd; omega) fun _ => ?_
            refine ⟨⟨k + 1, true, hk, by rw [hs1]; rfl⟩, (by show i - (k + 1) < i - k; omega), ?_⟩
            exact StT.ofL (σ := [0, 1, 2, 3, 4, 5, 6]) ⟨rfl, by show List.Nodup [3, 5, 6]; decide, by repeat' (first | exact trivial | exact rfl | apply And.intro | exact (fun _ _ _ _ => Cell.le_refl _) | (intro i hi; rfl) | (intro i hi; exact absurd hi (Nat.not_lt_zero _))), by repeat' (first | exact trivial | exact rfl | apply And.intro | exact (fun _ _ _ _ => Cell.le_refl _) | (intro i hi; rfl) | (intro i hi; exact absurd hi (Nat.not_lt_zero _)))⟩
          replace hb1 : b1 = false := hb1
          subst hb1
          have hg2 : gx < n2 := by omega
          have ix2 : 0 ≤ (gx : Int) ∧ (gx : Int) < (n2 : Int) := ⟨Int.natCast_nonneg gx, Int.ofNat_lt.mpr hg2⟩
          refine Need.mk ix2 fun _ => Need.mk hg2 fun _ => ?_
          refine Ife.mk (fun h0 => ?_) (fun h0 => ?_)
          · have h0' : decide ((0 : Int) < iA Z gx) = true := h0
            have hkA : k < A.length := by omega
            have hby := hSk.bl _ (iA_mem hkA)
            have ixk : 0 ≤ (k : Int) ∧ (k : Int) < (A.length : Int) := ⟨Int.natCast_nonneg k, Int.ofNat_lt.mpr hkA⟩
            refine Need.mk ixk fun _ => Need.mk hkA fun _ => ?_
            generalize hyy : iA A _ = y
            replace hyy : iA A k = y := hyy
            replace hby : 0 ≤ iA A k ∧ iA A k < (n' : Int) := hby
            rw [hyy] at hby hs1
            obtain ⟨yn, rfl⟩ : ∃ yn : Nat, y = (yn : Int) := ⟨y.toNat, by omega⟩
            have hy2 : yn < n2 := by omega
            refine Need.mk (show 0 ≤ (yn : Int) ∧ (yn : Int) < (n2 : Int) from ⟨Int.natCast_nonneg yn, Int.ofNat_lt.mpr hy2⟩) fun _ => Need.mk hy2 fun _ => Need.mk ix2 fun _ => Need.mk hg2 fun _ => ?_
            refine Need.mk (by show fitStd .i64 ((k : Int) + 1); unfold fitStd; omega) fun _ => ?_
            refine ⟨⟨k + 1, decide (iA Z yn = iA Z gx), hk, by rw [hs1, show decide ((0 : Int) < iA Z (gx : Int).toNat) = true from h0']; rfl⟩, (by show i - (k + 1) < i - k; omega), ?_⟩
            exact StT.ofL (σ := [0, 1, 2, 3, 4, 5, 6]) ⟨rfl, by show List.Nodup [3, 5, 6]; decide, by repeat' (first | exact trivial | exact rfl | apply And.intro | exact (fun _ _ _ _ => Cell.le_refl _) | (intro i hi; rfl) | (intro i hi; exact absurd hi (Nat.not_lt_zero _))), by repeat' (first | exact trivial | exact rfl | apply And.intro | exact (fun _ _ _ _ => Cell.le_refl _) | (intro i hi; rfl) | (intro i hi; exact absurd hi (Nat.not_lt_zero _)))⟩
          · have h0' : decide ((0 : Int) < iA Z gx) = false := h0
            refine Need.mk (by show fitStd .i64 ((k : Int) + 1); unfold fitStd; omega) fun _ => ?_
            refine ⟨⟨k + 1, false, hk, by rw [hs1, show decide ((0 : Int) < iA Z (gx : Int).toNat) = false from h0']; rfl⟩, (by show i - (k + 1) < i - k; omega), ?_⟩
            exact StT.ofL (σ := [0, 1, 2, 3, 4, 5, 6]) ⟨rfl, by show List.Nodup [3, 5, 6]; decide, by repeat' (first | exact trivial | exact rfl | apply And.intro | exact (fun _ _ _ _ => Cell.le_refl _) | (intro i hi; rfl) | (intro i hi; exact absurd hi (Nat.not_lt_zero _))), by repeat' (first | exact trivial | exact rfl | apply And.intro | exact (fun _ _ _ _ => Cell.le_refl _) | (intro i hi; rfl) | (intro i hi; exact absurd hi (Nat.not_lt_zero _)))⟩
        have hke : ¬ k < i := fun h => of_decide_eq_false (p := (k : Int) < (i : Int)) hlt (Int.ofNat_lt.mpr h)
        clear hlt
        have hb1 : b1 = true := by
          rw [hb]
          exact decide_eq_true ⟨hw1, j0, by omega, hw3⟩
        clear hb
        subst hb1
        refine Ife.no (b := Arith.std.9 true) rfl ?_
        refine Need.mk (by show fitStd .i64 ((i : Int) + 1); unfold fitStd; omega) fun _ => ?_
        refine ⟨⟨i + 1, hi⟩, (by show A.length - (i + 1) < A.length - i; omega), ?_⟩
        exact StT.ofL (σ := [0, 1, 2, 3, 4, 5, 6]) ⟨rfl, by show List.Nodup [3, 5, 6]; decide, by repeat' (first | exact trivial | exact rfl | apply And.intro | exact (fun _ _ _ _ => Cell.le_refl _) | (intro i hi; rfl) | (intro i hi; exact absurd hi (Nat.not_lt_zero _))), by repeat' (first | exact trivial | exact rfl | apply And.intro | exact (fun _ _ _ _ => Cell.le_refl _) | (intro i hi; rfl) | (intro i hi; exact absurd hi (Nat.not_lt_zero _)))⟩
      · refine Need.mk n1 fun _ => Need.mk ⟨n3, trivial⟩ fun _ => Need.mk (pP gx).1 fun _ => ?_
        generalize hE : fitsM g b c _ = E
        replace hE : fitsWith g b c L K gx = E := (congrArg (fitsM g b c) (pP gx).2.symm).trans hE
        refine Ife.mk (fun hf => ?_) (fun hf => ?_)
        · refine Need.mk (by show fitStd .i64 ((i : Int) + 1); unfold fitStd; omega) fun _ => ?_
          refine ⟨⟨i + 1, hi⟩, (by show A.length - (i + 1) < A.length - i; omega), ?_⟩
          exact StT.ofL (σ := [0, 1, 2, 3, 4, 5, 6]) ⟨rfl, by show List.Nodup [3, 5, 6]; decide, by repeat' (first | exact trivial | exact hsee | exact hmsg | exact hla | exact hlen | exact rfl | apply And.intro | exact (fun _ _ _ _ => Cell.le_refl _) | (intro i hi; rfl) | (intro i hi; exact absurd hi (Nat.not_lt_zero _))), by repeat' (first | exact trivial | exact hsee | exact hmsg | exact hla | exact hlen | exact rfl | apply And.intro | exact (fun _ _ _ _ => Cell.le_refl _) | (intro i hi; rfl) | (intro i hi; exact absurd hi (Nat.not_lt_zero _)))⟩
        replace hf : E = true := by simpa [Arith.std] using hf
        rw [hf] at hE
        obtain ⟨hw1, j0, hw2, hw3⟩ := hwhy hE
        rw [hG, hG] at hw3
        rw [hG] at hw1
        show Runs Try.prog 3 (.loop _) _ _
        refine loop_ruleE (N := env (lft Try.prog 3) 0 .std tbBm [(14, appFn [] [] sFirst28), (15, appFn [] [(60, 250)] sLightMs), (16, appFn [] [(60, 250), (60, 250), (3, 1)] sCut), (20, appFn [] [(60, 250)] sFits)] [(32, [(9999, true), (0, true), (1, true), (3, true), (4, true), (5, true), (3002, false), (6, false), (7, false), (8, false), (9, false), (10, true), (2999, false), (6, false), (3002, false), (7, false), (8, false), (9, false), (10, true), (2999, false), (7, false), (2, false), (8, false), (9, false), (10, true), (2999, false)]), (37, [(0, true), (1, true), (2, true), (3, true), (4, true), (5, true), (6, true), (7, true), (8, true), (9, true), (10, true), (11, true), (12, true), (13, true), (14, true), (15, true), (16, true), (17, true), (18, true), (19, true), (20, true), (21, true), (22, true)]), (43, [(9999, true), (0, true), (1, true), (2, true), (3, true), (4, true), (5, true), (6, true), (7, true), (8, true), (9, true), (10, true), (11, true), (12, true), (13, true), (15, true), (16, true), (17, true), (3014, false), (18, false), (19, false), (20, false), (21, false), (22, true), (23, true), (24, true), (2999, false), (18, false), (3014, false), (19, false), (20, false), (21, false), (22, true), (23, true), (24, true), (2999, false), (19, false), (14, false), (20, false), (21, false), (22, true), (23, true), (24, true), (2999, false)])]) rfl tbBm_ok hC (fun c st K _ h => h) (by kernel_rfl) [] (X := LW6 A Z (gx : Int) i)
          (S := fun x => ⟨[.any, .c (.row 0), .c (.row 1), .c (.row 2), .c (.ptr 3 0), .any, .any, .any, .any, .c (.row 4), .c (.row 5), .c (.row 6), .any, .any, .any, .any, .any, .c (.int .i64 (i : Int)), .c (.int .i64 (gx : Int)), .c (.bool x.b), .c (.int .i64 (x.k : Int))] ++ List.replicate 198 .any, [.data false 60 50 n (msgG false L), .data false 60 50 n' (msgG false K), .elems 3 1 n2 (inG Z), .cells 37 [.int .i64 g, .int .i64 b, .int .i64 c], .data true 39 1 T.length (txE true T), .row 3 1 A.length (inG A), .row 3 1 n' (seenG R (tkI A (i + 1)))]⟩) (μ := fun x => i - x.k) ⟨0, false, by omega, by simp⟩ (by kernel_rfl) ?b0z ?brdz
        case b0z => exact StT.ofL (σ := [0, 1, 2, 3, 4, 5, 6]) ⟨rfl, by show List.Nodup [3, 5, 6]; decide, by repeat' (first | exact trivial | exact hsee | exact hmsg | exact hla | exact hlen | exact rfl | apply And.intro | exact (fun _ _ _ _ => Cell.le_refl _) | (intro i hi; rfl) | (intro i hi; exact absurd hi (Nat.not_lt_zero _))), by repeat' (first | exact trivial | exact hsee | exact hmsg | exact hla | exact hlen | exact rfl | apply And.intro | exact (fun _ _ _ _ => Cell.le_refl _) | (intro i hi; rfl) | (intro i hi; exact absurd hi (Nat.not_lt_zero _)))⟩
        rintro ⟨k, b1, hk1, hb⟩
        unfold sFirst28 sLightMs sCut sFits
        generalize hg0 : (List.length : List UInt8 → Nat) = g0
        generalize hg1 : (List.length : List Int → Nat) = g1
        generalize hg2 : (List.length : List (List Int) → Nat) = g2
        generalize hL : lft Try.prog _ = L
        try dsimp only
        try unfold leafG
        try unfold msgCl
        try unfold msgG
        try unfold msgC
        try unfold txE
        try unfold seenG
        try unfold inG
        generalize ho0 : @lK = zo0, ho1 : @lV = zo1, ho2 : @lI = zo2, ho3 : @lP = zo3, ho4 : @lN = zo4, ho5 : @pG = zo5, ho6 : @rN = zo6, ho7 : @lenL = zo7, ho8 : @gM = zo8, ho9 : @msgsL = zo9, ho10 : @msgsPre = zo10, ho11 : @msgsPre0 = zo11, ho12 : @lightMs = zo12, ho13 : @fitsM = zo13, ho14 : @skip = zo14, ho15 : @skPre = zo15, ho16 : @groupOf = zo16, ho17 : @iA = zo17, ho18 : @iL = zo18, ho19 : @pushC = zo19, ho20 : @inPre = zo20, ho21 : @placeM = zo21, ho22 : @skOf = zo22, ho23 : @cutT = zo23, ho24 : @oneM = zo24, ho25 : @txG = zo25, ho26 : @tA = zo26, ho27 : @tN = zo27, ho28 : @inPre2b = zo28, ho29 : @lastOf = zo29, ho30 : @seenV = zo30, ho31 : @txOf = zo31, ho32 : @headU = zo32, ho33 : @tkI = zo33, ho34 : @txK = zo34
        generalize hA : Arith.std = A
        cbv
        subst hA hg0 hg1 hg2 hL ho0 ho1 ho2 ho3 ho4 ho5 ho6 ho7 ho8 ho9 ho10 ho11 ho12 ho13 ho14 ho15 ho16 ho17 ho18 ho19 ho20 ho21 ho22 ho23 ho24 ho25 ho26 ho27 ho28 ho29 ho30 ho31 ho32 ho33 ho34
        try simp only [← mpGet.eq_def, ← mpSet.eq_def]
        refine Ife.mk (fun hlt => ?_) (fun hlt => ?_)
        · have hk : k < i := Int.ofNat_lt.mp (of_decide_eq_true (p := (k : Int) < (i : Int)) hlt)
          clear hlt
          have hs1 := why_succ (A := A) (Z := Z) (x := (gx : Int)) (k := k)
          rw [← hb] at hs1
          refine Ife.mk (fun hb1 => ?_) (fun hb1 => ?_)
          · replace hb1 : b1 = true := hb1
            subst hb1
            refine Need.mk (by show fitStd .i64 ((k : Int) + 1); unfold fitStd; omega) fun _ => ?_
            refine ⟨⟨k + 1, true, hk, by rw [hs1]; rfl⟩, (by show i - (k + 1) < i - k; omega), ?_⟩
            exact StT.ofL (σ := [0, 1, 2, 3, 4, 5, 6]) ⟨rfl, by show List.Nodup [3, 5, 6]; decide, by repeat' (first | exact trivial | exact rfl | apply And.intro | exact (fun _ _ _ _ => Cell.le_refl _) | (intro i hi; rfl) | (intro i hi; exact absurd hi (Nat.not_lt_zero _))), by repeat' (first | exact trivial | exact rfl | apply And.intro | exact (fun _ _ _ _ => Cell.le_refl _) | (intro i hi; rfl) | (intro i hi; exact absurd hi (Nat.not_lt_zero _)))⟩
          replace hb1 : b1 = false := hb1
          subst hb1
          have hg2 : gx < n2 := by omega
          have ix2 : 0 ≤ (gx : Int) ∧ (gx : Int) < (n2 : Int) := ⟨Int.natCast_nonneg gx, Int.ofNat_lt.mpr hg2⟩
          refine Need.mk ix2 fun _ => Need.mk hg2 fun _ => ?_
          refine Ife.mk (fun h0 => ?_) (fun h0 => ?_)
          · have h0' : decide ((0 : Int) < iA Z gx) = true := h0
            have hkA : k < A.length := by omega
            have hby := hSk.bl _ (iA_mem hkA)
            have ixk : 0 ≤ (k : Int) ∧ (k : Int) < (A.length : Int) := ⟨Int.natCast_nonneg k, Int.ofNat_lt.mpr hkA⟩
            refine Need.mk ixk fun _ => Need.mk hkA fun _ => ?_
            generalize hyy : iA A _ = y
            replace hyy : iA A k = y := hyy
            replace hby : 0 ≤ iA A k ∧ iA A k < (n' : Int) := hby
            rw [hyy] at hby hs1
            obtain ⟨yn, rfl⟩ : ∃ yn : Nat, y = (yn : Int) := ⟨y.toNat, by omega⟩
            have hy2 : yn < n2 := by omega
            refine Need.mk (show 0 ≤ (yn : Int) ∧ (yn : Int) < (n2 : Int) from ⟨Int.natCast_nonneg yn, Int.ofNat_lt.mpr hy2⟩) fun _ => Need.mk hy2 fun _ => Need.mk ix2 fun _ => Need.mk hg2 fun _ => ?_
            refine Need.mk (by show fitStd .i64 ((k : Int) + 1); unfold fitStd; omega) fun _ => ?_
            refine ⟨⟨k + 1, decide (iA Z yn = iA Z gx), hk, by rw [hs1, show decide ((0 : Int) < iA Z (gx : Int).toNat) = true from h0']; rfl⟩, (by show i - (k + 1) < i - k; omega), ?_⟩
            exact StT.ofL (σ := [0, 1, 2, 3, 4, 5, 6]) ⟨rfl, by show List.Nodup [3, 5, 6]; decide, by repeat' (first | exact trivial | exact rfl | apply And.intro | exact (fun _ _ _ _ => Cell.le_refl _) | (intro i hi; rfl) | (intro i hi; exact absurd hi (Nat.not_lt_zero _))), by repeat' (first | exact trivial | exact rfl | apply And.intro | exact (fun _ _ _ _ => Cell.le_refl _) | (intro i hi; rfl) | (intro i hi; exact absurd hi (Nat.not_lt_zero _)))⟩
          · have h0' : decide ((0 : Int) < iA Z gx) = false := h0
            refine Need.mk (by show fitStd .i64 ((k : Int) + 1); unfold fitStd; omega) fun _ => ?_
            refine ⟨⟨k + 1, false, hk, by rw [hs1, show decide ((0 : Int) < iA Z (gx : Int).toNat) = false from h0']; rfl⟩, (by show i - (k + 1) < i - k; omega), ?_⟩
            exact StT.ofL (σ := [0, 1, 2, 3, 4, 5, 6]) ⟨rfl, by show List.Nodup [3, 5, 6]; decide, by repeat' (first | exact trivial | exact rfl | apply And.intro | exact (fun _ _ _ _ => Cell.le_refl _) | (intro i hi; rfl) | (intro i hi; exact absurd hi (Nat.not_lt_zero _))), by repeat' (first | exact trivial | exact rfl | apply And.intro | exact (fun _ _ _ _ => Cell.le_refl _) | (intro i hi; rfl) | (intro i hi; exact absurd hi (Nat.not_lt_zero _)))⟩
        have hke : ¬ k < i := fun h => of_decide_eq_false (p := (k : Int) < (i : Int)) hlt (Int.ofNat_lt.mpr h)
        clear hlt
        have hb1 : b1 = true := by
          rw [hb]
          exact decide_eq_true ⟨hw1, j0, by omega, hw3⟩
        clear hb
        subst hb1
        refine Ife.no (b := Arith.std.9 true) rfl ?_
        refine Need.mk (by show fitStd .i64 ((i : Int) + 1); unfold fitStd; omega) fun _ => ?_
        refine ⟨⟨i + 1, hi⟩, (by show A.length - (i + 1) < A.length - i; omega), ?_⟩
        exact StT.ofL (σ := [0, 1, 2, 3, 4, 5, 6]) ⟨rfl, by show List.Nodup [3, 5, 6]; decide, by repeat' (first | exact trivial | exact rfl | apply And.intro | exact (fun _ _ _ _ => Cell.le_refl _) | (intro i hi; rfl) | (intro i hi; exact absurd hi (Nat.not_lt_zero _))), by repeat' (first | exact trivial | exact rfl | apply And.intro | exact (fun _ _ _ _ => Cell.le_refl _) | (intro i hi; rfl) | (intro i hi; exact absurd hi (Nat.not_lt_zero _)))⟩
    have hi : i < T.length := Int.ofNat_lt.mp (of_decide_eq_true (p := (i : Int) < (T.length : Int)) hlt)
    clear hlt
    have ixT : 0 ≤ (i : Int) ∧ (i : Int) < (T.length : Int) := ⟨Int.natCast_nonneg i, Int.ofNat_lt.mpr hi⟩
    refine Ife.mk (fun h0 => ?_) (fun h0 => ?_)
    · have hi0 : i = 0 := by
        have := of_decide_eq_true (p := (i : Int) = 0) h0
        omega
      have hH : headU L i = L := if_pos hi0
      refine Need.mk (show 0 + n ≤ maxLen ∧ (0 + n) * 240 ≤ 140737488355328 by unfold maxLen; omega) fun _ => ?_
      have hHl : L.length = n := hL
      have hHo : ∀ m ∈ L, MsgOk m := hok
      show Runs Try.prog 3 (.loop _) _ _
      refine loop_ruleE (N := env (lft Try.prog 3) 0 .std tbBm [(14, appFn [] [] sFirst28), (15, appFn [] [(60, 250)] sLightMs), (16, appFn [] [(60, 250), (60, 250), (3, 1)] sCut), (20, appFn [] [(60, 250)] sFits)] [(32, [(9999, true), (0, true), (1, true), (3, true), (4, true), (5, true), (3002, false), (6, false), (7, false), (8, false), (9, false), (10, true), (2999, false), (6, false), (3002, false), (7, false), (8, false), (9, false), (10, true), (2999, false), (7, false), (2, false), (8, false), (9, false), (10, true), (2999, false)]), (37, [(0, true), (1, true), (2, true), (3, true), (4, true), (5, true), (6, true), (7, true), (8, true), (9, true), (10, true), (11, true), (12, true), (13, true), (14, true), (15, true), (16, true), (17, true), (18, true), (19, true), (20, true), (21, true), (22, true)]), (43, [(9999, true), (0, true), (1, true), (2, true), (3, true), (4, true), (5, true), (6, true), (7, true), (8, true), (9, true), (10, true), (11, true), (12, true), (13, true), (15, true), (16, true), (17, true), (3014, false), (18, false), (19, false), (20, false), (21, false), (22, true), (23, true), (24, true), (2999, false), (18, false), (3014, false), (19, false), (20, false), (21, false), (22, true), (23, true), (24, true), (2999, false), (19, false), (14, false), (20, false), (21, false), (22, true), (23, true), (24, true), (2999, false)])]) rfl tbBm_ok hC (fun c st K _ h => h) (by kernel_rfl) [] (X := LW2 (tA T i) p n)
        (S := fun x => ⟨[.any, .c (.row 0), .c (.row 1), .c (.row 2), .c (.ptr 3 0), .any, .any, .any, .any, .c (.row 4), .c (.row 5), .c (.row 6), .c (.int .i64 (lastOf R x.q)), .c (.int .i64 (i : Int)), .c (.row 7), .c (.int .i64 (x.k : Int))] ++ List.replicate 203 .any, [.data false 60 50 n (msgG false L), .data false 60 50 n' (msgG false K), .elems 3 1 n2 (inG Z), .cells 37 [.int .i64 g, .int .i64 b, .int .i64 c], .data true 39 1 T.length (txE true T), .row 3 1 A.length (inG A), .row 3 1 n' (seenG (tkI R x.q) []), .orow 60 50 x.nm (msgG false (txK K L (tA T i) x.k))]⟩) (μ := fun x => (tA T i).length - x.k) ⟨0, p, n, by omega, rfl, rfl⟩ (by kernel_rfl) ?g0u ?grdu
      case g0u =>
        have hmsg : ∀ i' j, i' < n → j < 50 → Cell.le (msgG false L i' j) (msgG false (txK K L (tA T i) 0) i' j) := fun i' j _ _ => by
          rw [show txK K L (tA T i) 0 = L by simp [txK]]
          exact Cell.le_refl _
        exact StT.ofL (σ := [0, 1, 2, 3, 4, 5, 6, 7]) ⟨rfl, by show List.Nodup [3, 5, 6, 7]; decide, by repeat' (first | exact trivial | exact hsee | exact hmsg | exact hla | exact hlen | exact rfl | apply And.intro | exact (fun _ _ _ _ => Cell.le_refl _) | (intro i hi; rfl) | (intro i hi; exact absurd hi (Nat.not_lt_zero _))), by repeat' (first | exact trivial | exact hsee | exact hmsg | exact hla | exact hlen | exact rfl | apply And.intro | exact (fun _ _ _ _ => Cell.le_refl _) | (intro i hi; rfl) | (intro i hi; exact absurd hi (Nat.not_lt_zero _)))⟩
      rintro ⟨k, q, nm, hk1, hq, hm2⟩
      have hxo : ∀ m ∈ txK K L (tA T i) k, MsgOk m := fun m hm => by
        rcases List.mem_append.1 hm with h | h
        · exact hHo m h
        · obtain ⟨r, -, rfl⟩ := List.mem_map.1 h
          exact hpo r
      have hxl : (txK K L (tA T i) k).length = nm := by rw [txK_len hk1, hHl, hm2]
      unfold sFirst28 sLightMs sCut sFits
      generalize hg0 : (List.length : List UInt8 → Nat) = g0
      generalize hg1 : (List.length : List Int → Nat) = g1
      generalize hg2 : (List.length : List (List Int) → Nat) = g2
      generalize hL : lft Try.prog _ = L
      try dsimp only
      try unfold leafG
      try unfold msgCl
      try unfold msgG
      try unfold msgC
      try unfold txE
      try unfold seenG
      try unfold inG
      generalize ho0 : @lK = zo0, ho1 : @lV = zo1, ho2 : @lI = zo2, ho3 : @lP = zo3, ho4 : @lN = zo4, ho5 : @pG = zo5, ho6 : @rN = zo6, ho7 : @lenL = zo7, ho8 : @gM = zo8, ho9 : @msgsL = zo9, ho10 : @msgsPre = zo10, ho11 : @msgsPre0 = zo11, ho12 : @lightMs = zo12, ho13 : @fitsM = zo13, ho14 : @skip = zo14, ho15 : @skPre = zo15, ho16 : @groupOf = zo16, ho17 : @iA = zo17, ho18 : @iL = zo18, ho19 : @pushC = zo19, ho20 : @inPre = zo20, ho21 : @placeM = zo21, ho22 : @skOf = zo22, ho23 : @cutT = zo23, ho24 : @oneM = zo24, ho25 : @txG = zo25, ho26 : @tA = zo26, ho27 : @tN = zo27, ho28 : @inPre2b = zo28, ho29 : @lastOf = zo29, ho30 : @seenV = zo30, ho31 : @txOf = zo31, ho32 : @headU = zo32, ho33 : @tkI = zo33, ho34 : @txK = zo34
      generalize hA : Arith.std = A
      cbv
      subst hA hg0 hg1 hg2 hL ho0 ho1 ho2 ho3 ho4 ho5 ho6 ho7 ho8 ho9 ho10 ho11 ho12 ho13 ho14 ho15 ho16 ho17 ho18 ho19 ho20 ho21 ho22 ho23 ho24 ho25 ho26 ho27 ho28 ho29 ho30 ho31 ho32 ho33 ho34
      try simp only [← mpGet.eq_def, ← mpSet.eq_def]
      refine Need.mk ixT fun _ => Need.mk hi fun _ => ?_
      refine Ife.mk (fun hlt => ?_) (fun hlt => ?_)
      · have hk : k < (tA T i).length := Int.ofNat_lt.mp (of_decide_eq_true (p := (k : Int) < (tN T i : Int)) hlt)
        clear hlt
        have ixk : 0 ≤ (k : Int) ∧ (k : Int) < (tN T i : Int) := ⟨Int.natCast_nonneg k, Int.ofNat_lt.mpr hk⟩
        obtain ⟨hq1, hq2⟩ := flat_at hi hk
        rw [hflat, ← hp, ← hq] at hq1 hq2
        have hb := hSk.br _ (iA_mem hq1)
        have hlast := lastOf_lt hq1 hSk.sr (fun x hx => (hSk.br x hx).1.1)
        refine Need.mk ixT fun _ => Need.mk hi fun _ => Need.mk ixk fun _ => Need.mk (show k < tN T i from hk) fun _ => ?_
        generalize hy : iA (tA T _) _ = y
        replace hy : iA (tA T i) k = y := hy
        rw [hq2, hy] at hb hlast
        rw [hy] at hq2
        obtain ⟨⟨hb1, hb2⟩, -⟩ := hb
        refine Ife.no (decide_eq_false (by omega : ¬ y ≤ lastOf R q)) ?_
        refine Ife.no (decide_eq_false (by omega : ¬ (n' : Int) ≤ y)) ?_
        obtain ⟨j, rfl⟩ : ∃ j : Nat, y = (j : Int) := ⟨y.toNat, by omega⟩
        have hj : j < n' := by omega
        refine Need.mk ⟨hb1, hb2⟩ fun _ => Need.mk hj fun _ => Need.mk ⟨hb1, hb2⟩ fun _ => Need.mk hj fun _ => ?_
        have hkb : k < 1000 := Nat.lt_of_lt_of_le hk (hTt i hi)
        refine Need.mk ⟨show nm + 1 ≤ maxLen ∧ (nm + 1) * 240 ≤ 140737488355328 by unfold maxLen; omega, trivial⟩ fun _ => ?_
        refine Need.mk (by show fitStd .i64 ((k : Int) + 1); unfold fitStd; omega) fun _ => ?_
        refine ⟨⟨k + 1, q + 1, nm + 1, hk, by omega, by omega⟩, (by show (tA T i).length - (k + 1) < (tA T i).length - k; omega), ?stu⟩
        case stu =>
          have hsee : ∀ j', j' < n' → upG (seenG (tkI R q) []) j 0 [.int .i64 1] j' = seenG (tkI R (q + 1)) [] j' := by
            rw [tkI_snoc hq1, hq2]
            exact seen_one rfl
          have hmsg : ∀ i' j', i' < nm + 1 → j' < 50 → Cell.le (pushC nm (msgG false (txK K L (tA T i) k)) (msgCl false (gM K j)) i' j') (msgG false (txK K L (tA T i) (k + 1)) i' j') := by
            rw [txK_snoc hk, hy]
            exact pushC_le hxl rfl
          have hla : (j : Int) = lastOf R (q + 1) := by rw [lastOf_succ, hq2]
          exact StT.ofL (σ := [0, 1, 2, 3, 4, 5, 6, 13]) ⟨rfl, by show List.Nodup [3, 5, 6, 13]; decide, by repeat' (first | exact trivial | exact hsee | exact hmsg | exact hla | exact hlen | exact rfl | apply And.intro | exact (fun _ _ _ _ => Cell.le_refl _) | (intro i hi; rfl) | (intro i hi; exact absurd hi (Nat.not_lt_zero _))), by repeat' (first | exact trivial | exact hsee | exact hmsg | exact hla | exact hlen | exact rfl | apply And.intro | exact (fun _ _ _ _ => Cell.le_refl _) | (intro i hi; rfl) | (intro i hi; exact absurd hi (Nat.not_lt_zero _)))⟩
      have hke : ¬ k < tN T i := fun h => of_decide_eq_false (p := (k : Int) < (tN T i : Int)) hlt (Int.ofNat_lt.mpr h)
      clear hlt
      have hkt : k = (tA T i).length := Nat.le_antisymm hk1 (Nat.le_of_not_lt hke)
      refine Need.mk ixT fun _ => Need.mk hi fun _ => ?_
      have htn := hne i hi
      refine Ife.no (decide_eq_false (by omega : ¬ (tN T i : Int) = 0)) ?_
      have hkb : k ≤ 1000 := Nat.le_trans hk1 (hTt i hi)
      have pX := IsMs.pre (L := txK K L (tA T i) k) (IsMs.msg (fr := false) hxl) hxo (by omega)
      refine Need.mk pX.1 fun _ => ?_
      have hfi : fitsM g b c (msgsL nm fun i' j => (msgG false (txK K L (tA T i) k) i' j).old) = true := by
        rw [pX.2]
        have h := hfit i hi
        unfold txOf at h
        rw [hH] at h
        have e : txK K L (tA T i) k = L ++ (tA T i).map (placeM K) := by
          unfold txK
          rw [List.take_of_length_le (Nat.le_of_eq hkt.symm)]
        rw [e]
        exact h
      refine Ife.no (by show (!fitsM g b c _) = false; rw [hfi]; rfl) ?_
      refine Need.mk (by show fitStd .i64 ((i : Int) + 1); unfold fitStd; omega) fun _ => ?_
      refine ⟨⟨i + 1, q, hi, by rw [flat_take hi, List.length_append, ← hp, hq, hkt]⟩, (by show T.length - (i + 1) < T.length - i; omega), ?_⟩
      exact StT.ofL (σ := [0, 1, 2, 3, 4, 5, 6]) ⟨rfl, by show List.Nodup [3, 5, 6]; decide, by repeat' (first | exact trivial | exact hsee | exact hmsg | exact hla | exact hlen | exact rfl | apply And.intro | exact (fun _ _ _ _ => Cell.le_refl _) | (intro i hi; rfl) | (intro i hi; exact absurd hi (Nat.not_lt_zero _))), by repeat' (first | exact trivial | exact hsee | exact hmsg | exact hla | exact hlen | exact rfl | apply And.intro | exact (fun _ _ _ _ => Cell.le_refl _) | (intro i hi; rfl) | (intro i hi; exact absurd hi (Nat.not_lt_zero _)))⟩
    · have hi0 : ¬ i = 0 := fun h => of_decide_eq_false (p := (i : Int) = 0) h0 (by rw [h]; rfl)
      have hH : headU L i = [] := if_neg hi0
      have hHl : ([] : List PMsg).length = 0 := rfl
      have hHo : ∀ m ∈ ([] : List PMsg), MsgOk m := fun m hm => absurd hm (by simp)
      show Runs Try.prog 3 (.loop _) _ _
      refine loop_ruleE (N := env (lft Try.prog 3) 0 .std tbBm [(14, appFn [] [] sFirst28), (15, appFn [] [(60, 250)] sLightMs), (16, appFn [] [(60, 250), (60, 250), (3, 1)] sCut), (20, appFn [] [(60, 250)] sFits)] [(32, [(9999, true), (0, true), (1, true), (3, true), (4, true), (5, true), (3002, false), (6, false), (7, false), (8, false), (9, false), (10, true), (2999, false), (6, false), (3002, false), (7, false), (8, false), (9, false), (10, true), (2999, false), (7, false), (2, false), (8, false), (9, false), (10, true), (2999, false)]), (37, [(0, true), (1, true), (2, true), (3, true), (4, true), (5, true), (6, true), (7, true), (8, true), (9, true), (10, true), (11, true), (12, true), (13, true), (14, true), (15, true), (16, true), (17, true), (18, true), (19, true), (20, true), (21, true), (22, true)]), (43, [(9999, true), (0, true), (1, true), (2, true), (3, true), (4, true), (5, true), (6, true), (7, true), (8, true), (9, true), (10, true), (11, true), (12, true), (13, true), (15, true), (16, true), (17, true), (3014, false), (18, false), (19, false), (20, false), (21, false), (22, true), (23, true), (24, true), (2999, false), (18, false), (3014, false), (19, false), (20, false), (21, false), (22, true), (23, true), (24, true), (2999, false), (19, false), (14, false), (20, false), (21, false), (22, true), (23, true), (24, true), (2999, false)])]) rfl tbBm_ok hC (fun c st K _ h => h) (by kernel_rfl) [] (X := LW2 (tA T i) p 0)
        (S := fun x => ⟨[.any, .c (.row 0), .c (.row 1), .c (.row 2), .c (.ptr 3 0), .any, .any, .any, .any, .c (.row 4), .c (.row 5), .c (.row 6), .c (.int .i64 (lastOf R x.q)), .c (.int .i64 (i : Int)), .c (.row 7), .c (.int .i64 (x.k : Int))] ++ List.replicate 203 .any, [.data false 60 50 n (msgG false L), .data false 60 50 n' (msgG false K), .elems 3 1 n2 (inG Z), .cells 37 [.int .i64 g, .int .i64 b, .int .i64 c], .data true 39 1 T.length (txE true T), .row 3 1 A.length (inG A), .row 3 1 n' (seenG (tkI R x.q) []), .orow 60 50 x.nm (msgG false (txK K [] (tA T i) x.k))]⟩) (μ := fun x => (tA T i).length - x.k) ⟨0, p, 0, by omega, rfl, rfl⟩ (by kernel_rfl) ?g0v ?grdv
      case g0v =>
        have hmsg : ∀ i' j, i' < 0 → j < 50 → Cell.le (msgG false [] i' j) (msgG false (txK K [] (tA T i) 0) i' j) := fun i' j _ _ => by
          rw [show txK K [] (tA T i) 0 = [] by simp [txK]]
          exact Cell.le_refl _
        exact StT.trans (StT.nil (d := 14) (.orow 60 50 0 (msgG false [])) rfl rfl) (StT.ofL (σ := [0, 1, 2, 3, 4, 5, 6, 7]) ⟨rfl, by show List.Nodup [3, 5, 6, 7]; decide, by repeat' (first | exact trivial | exact hsee | exact hmsg | exact hla | exact hlen | exact rfl | apply And.intro | exact (fun _ _ _ _ => Cell.le_refl _) | (intro i hi; rfl) | (intro i hi; exact absurd hi (Nat.not_lt_zero _))), by repeat' (first | exact trivial | exact hsee | exact hmsg | exact hla | exact hlen | exact rfl | apply And.intro | exact (fun _ _ _ _ => Cell.le_refl _) | (intro i hi; rfl) | (intro i hi; exact absurd hi (Nat.not_lt_zero _)))⟩)
      rintro ⟨k, q, nm, hk1, hq, hm2⟩
      have hxo : ∀ m ∈ txK K [] (tA T i) k, MsgOk m := fun m hm => by
        rcases List.mem_append.1 hm with h | h
        · exact hHo m h
        · obtain ⟨r, -, rfl⟩ := List.mem_map.1 h
          exact hpo r
      have hxl : (txK K [] (tA T i) k).length = nm := by rw [txK_len hk1, hHl, hm2]
      unfold sFirst28 sLightMs sCut sFits
      generalize hg0 : (List.length : List UInt8 → Nat) = g0
      generalize hg1 : (List.length : List Int → Nat) = g1
      generalize hg2 : (List.length : List (List Int) → Nat) = g2
      generalize hL : lft Try.prog _ = L
      try dsimp only
      try unfold leafG
      try unfold msgCl
      try unfold msgG
      try unfold msgC
      try unfold txE
      try unfold seenG
      try unfold inG
      generalize ho0 : @lK = zo0, ho1 : @lV = zo1, ho2 : @lI = zo2, ho3 : @lP = zo3, ho4 : @lN = zo4, ho5 : @pG = zo5, ho6 : @rN = zo6, ho7 : @lenL = zo7, ho8 : @gM = zo8, ho9 : @msgsL = zo9, ho10 : @msgsPre = zo10, ho11 : @msgsPre0 = zo11, ho12 : @lightMs = zo12, ho13 : @fitsM = zo13, ho14 : @skip = zo14, ho15 : @skPre = zo15, ho16 : @groupOf = zo16, ho17 : @iA = zo17, ho18 : @iL = zo18, ho19 : @pushC = zo19, ho20 : @inPre = zo20, ho21 : @placeM = zo21, ho22 : @skOf = zo22, ho23 : @cutT = zo23, ho24 : @oneM = zo24, ho25 : @txG = zo25, ho26 : @tA = zo26, ho27 : @tN = zo27, ho28 : @inPre2b = zo28, ho29 : @lastOf = zo29, ho30 : @seenV = zo30, ho31 : @txOf = zo31, ho32 : @headU = zo32, ho33 : @tkI = zo33, ho34 : @txK = zo34
      generalize hA : Arith.std = A
      cbv
      subst hA hg0 hg1 hg2 hL ho0 ho1 ho2 ho3 ho4 ho5 ho6 ho7 ho8 ho9 ho10 ho11 ho12 ho13 ho14 ho15 ho16 ho17 ho18 ho19 ho20 ho21 ho22 ho23 ho24 ho25 ho26 ho27 ho28 ho29 ho30 ho31 ho32 ho33 ho34
      try simp only [← mpGet.eq_def, ← mpSet.eq_def]
      refine Need.mk ixT fun _ => Need.mk hi fun _ => ?_
      refine Ife.mk (fun hlt => ?_) (fun hlt => ?_)
      · have hk : k < (tA T i).length := Int.ofNat_lt.mp (of_decide_eq_true (p := (k : Int) < (tN T i : Int)) hlt)
        clear hlt
        have ixk : 0 ≤ (k : Int) ∧ (k : Int) < (tN T i : Int) := ⟨Int.natCast_nonneg k, Int.ofNat_lt.mpr hk⟩
        obtain ⟨hq1, hq2⟩ := flat_at hi hk
        rw [hflat, ← hp, ← hq] at hq1 hq2
        have hb := hSk.br _ (iA_mem hq1)
        have hlast := lastOf_lt hq1 hSk.sr (fun x hx => (hSk.br x hx).1.1)
        refine Need.mk ixT fun _ => Need.mk hi fun _ => Need.mk ixk fun _ => Need.mk (show k < tN T i from hk) fun _ => ?_
        generalize hy : iA (tA T _) _ = y
        replace hy : iA (tA T i) k = y := hy
        rw [hq2, hy] at hb hlast
        rw [hy] at hq2
        obtain ⟨⟨hb1, hb2⟩, -⟩ := hb
        refine Ife.no (decide_eq_false (by omega : ¬ y ≤ lastOf R q)) ?_
        refine Ife.no (decide_eq_false (by omega : ¬ (n' : Int) ≤ y)) ?_
        obtain ⟨j, rfl⟩ : ∃ j : Nat, y = (j : Int) := ⟨y.toNat, by omega⟩
        have hj : j < n' := by omega
        refine Need.mk ⟨hb1, hb2⟩ fun _ => Need.mk hj fun _ => Need.mk ⟨hb1, hb2⟩ fun _ => Need.mk hj fun _ => ?_
        have hkb : k < 1000 := Nat.lt_of_lt_of_le hk (hTt i hi)
        refine Need.mk ⟨show nm + 1 ≤ maxLen ∧ (nm + 1) * 240 ≤ 140737488355328 by unfold maxLen; omega, trivial⟩ fun _ => ?_
        refine Need.mk (by show fitStd .i64 ((k : Int) + 1); unfold fitStd; omega) fun _ => ?_
        refine ⟨⟨k + 1, q + 1, nm + 1, hk, by omega, by omega⟩, (by show (tA T i).length - (k + 1) < (tA T i).length - k; omega), ?stv⟩
        case stv =>
          have hsee : ∀ j', j' < n' → upG (seenG (tkI R q) []) j 0 [.int .i64 1] j' = seenG (tkI R (q + 1)) [] j' := by
            rw [tkI_snoc hq1, hq2]
            exact seen_one rfl
          have hmsg : ∀ i' j', i' < nm + 1 → j' < 50 → Cell.le (pushC nm (msgG false (txK K [] (tA T i) k)) (msgCl false (gM K j)) i' j') (msgG false (txK K [] (tA T i) (k + 1)) i' j') := by
            rw [txK_snoc hk, hy]
            exact pushC_le hxl rfl
          have hla : (j : Int) = lastOf R (q + 1) := by rw [lastOf_succ, hq2]
          exact StT.ofL (σ := [0, 1, 2, 3, 4, 5, 6, 13]) ⟨rfl, by show List.Nodup [3, 5, 6, 13]; decide, by repeat' (first | exact trivial | exact hsee | exact hmsg | exact hla | exact hlen | exact rfl | apply And.intro | exact (fun _ _ _ _ => Cell.le_refl _) | (intro i hi; rfl) | (intro i hi; exact absurd hi (Nat.not_lt_zero _))), by repeat' (first | exact trivial | exact hsee | exact hmsg | exact hla | exact hlen | exact rfl | apply And.intro | exact (fun _ _ _ _ => Cell.le_refl _) | (intro i hi; rfl) | (intro i hi; exact absurd hi (Nat.not_lt_zero _)))⟩
      have hke : ¬ k < tN T i := fun h => of_decide_eq_false (p := (k : Int) < (tN T i : Int)) hlt (Int.ofNat_lt.mpr h)
      clear hlt
      have hkt : k = (tA T i).length := Nat.le_antisymm hk1 (Nat.le_of_not_lt hke)
      refine Need.mk ixT fun _ => Need.mk hi fun _ => ?_
      have htn := hne i hi
      refine Ife.no (decide_eq_false (by omega : ¬ (tN T i : Int) = 0)) ?_
      have hkb : k ≤ 1000 := Nat.le_trans hk1 (hTt i hi)
      have pX := IsMs.pre (L := txK K [] (tA T i) k) (IsMs.msg (fr := false) hxl) hxo (by omega)
      refine Need.mk pX.1 fun _ => ?_
      have hfi : fitsM g b c (msgsL nm fun i' j => (msgG false (txK K [] (tA T i) k) i' j).old) = true := by
        rw [pX.2]
        have h := hfit i hi
        unfold txOf at h
        rw [hH] at h
        have e : txK K [] (tA T i) k = [] ++ (tA T i).map (placeM K) := by
          unfold txK
          rw [List.take_of_length_le (Nat.le_of_eq hkt.symm)]
        rw [e]
        exact h
      refine Ife.no (by show (!fitsM g b c _) = false; rw [hfi]; rfl) ?_
      refine Need.mk (by show fitStd .i64 ((i : Int) + 1); unfold fitStd; omega) fun _ => ?_
      refine ⟨⟨i + 1, q, hi, by rw [flat_take hi, List.length_append, ← hp, hq, hkt]⟩, (by show T.length - (i + 1) < T.length - i; omega), ?_⟩
      exact StT.ofL (σ := [0, 1, 2, 3, 4, 5, 6]) ⟨rfl, by show List.Nodup [3, 5, 6]; decide, by repeat' (first | exact trivial | exact hsee | exact hmsg | exact hla | exact hlen | exact rfl | apply And.intro | exact (fun _ _ _ _ => Cell.le_refl _) | (intro i hi; rfl) | (intro i hi; exact absurd hi (Nat.not_lt_zero _))), by repeat' (first | exact trivial | exact hsee | exact hmsg | exact hla | exact hlen | exact rfl | apply And.intro | exact (fun _ _ _ _ => Cell.le_refl _) | (intro i hi; rfl) | (intro i hi; exact absurd hi (Nat.not_lt_zero _)))⟩

end Go.Proofs.Ythomoliklfmnkaa.Vx
namespace Go.Proofs.Ythomoliklfmnkaa
open Go.RowKit
set_option linter.unusedVariables false
theorem batchWholeWalk (w : World) (g b c : Int) (v : Value) (L : List Vx.PMsg) (hv : (Vx.Cell.ns false 60 50 L.length (Vx.msgG false L)).shows w (fun _ b => b < w.heap.size) v) (hn : L.length ≤ maxLen) (hr : ∀ m ∈ L, Vx.MsgRaw m)
    (v' : Value) (K : List Vx.PMsg) (hv' : (Vx.Cell.ns false 60 50 K.length (Vx.msgG false K)).shows w (fun _ b => b < w.heap.size) v') (hn' : K.length ≤ maxLen) (hr' : ∀ m ∈ K, Vx.MsgRaw m)
    (p : Option Addr) (cap : Nat) (ls : List Int) (hs : SlIn w p 1 cap (ls.map fun n => [.int .i64 n])) :
    Calls Try.prog 5 #[.agg #[.int .i64 g, .int .i64 b, .int .i64 c], v, v', .slice p ls.length cap] w fun e w' => e = .returned (.bool true) ∧ Below w.heap.size w w' := by
  obtain ⟨q, hq, r1⟩ := Vx.Rel.addMsgs (Vx.Rel.refl w) hv
  obtain ⟨q', hq', r2⟩ := Vx.Rel.addMsgs r1 hv'
  obtain ⟨q2, hq2, gd⟩ := inz_good hs
  have hm : ls.length ≤ 9223372036854775807 := by have := hs.max; simpa [maxLen] using this
  have d : Vx.CV.den [q, q', q2] (.row 0) = some v := Vx.msgs_den hv hq
  have d' : Vx.CV.den [q, q', q2] (.row 1) = some v' := Vx.msgs_den hv' hq'
  rw [← hq2]
  refine Calls.mono (Vx.batchWholeP.run [.agg [.int .i64 g, .int .i64 b, .int .i64 c], .c (.row 0), .c (.row 1), .c (.row 2)] [.data false 60 50 L.length (Vx.msgG false L), .data false 60 50 K.length (Vx.msgG false K), .elems 3 1 ls.length (Vx.inG ls)] _ _ _ rfl ⟨Vx.msgsPre0_law hr hn, Vx.msgsPre0_law hr' hn', rfl, rfl, Vx.inAt_inG _ _, hm⟩ [q, q', q2] w _ (Vx.Rel.addV r2 3 gd)
    ⟨_, _, rfl, ⟨[.int .i64 g, .int .i64 b, .int .i64 c], rfl, rfl⟩, _, _, rfl, d, _, _, rfl, d', _, _, rfl, (by obtain ⟨a', cap', e, _⟩ := gd.sl; simp [Vx.SV.is, Vx.CV.den, e, Vx.one] : Vx.SV.is [q, q', q2] (.c (.row 2)) q2.v), rfl⟩) fun e W' he => ?_
  obtain ⟨u, ρ', rfl, hu, hr⟩ := he
  obtain rfl : .bool true = u := Option.some.inj hu
  exact ⟨rfl, Vx.Rel.toBelow hr⟩
end Go.Proofs.Ythomoliklfmnkaa
