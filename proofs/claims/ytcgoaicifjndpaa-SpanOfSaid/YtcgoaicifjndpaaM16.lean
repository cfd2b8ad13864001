/- Ranges of numbers: Good, Count, by the walker. -/
import Derived.Test.YtcgoaicifjndpaaVxFrame
import Derived.Test.YtcgoaicifjndpaaVxFlat
import Derived.Test.YtcgoaicifjndpaaVxLive
import Derived.Test.YtcgoaicifjndpaaM13
import Derived.Test.YtcgoaicifjndpaaRows
import Derived.Test.YtcgoaicifjndpaaShelf
import Derived.Sort.OwnSortedInts
section
namespace Go.Proofs.Ytcgoaicifjndpaa.Vx
open Go.RowKit Span
set_option linter.unusedVariables false
set_option linter.unusedSimpArgs false
def rA (l : List Rg) (i : Nat) : Int := (l.getD i (0, 0)).1
def rB (l : List Rg) (i : Nat) : Int := (l.getD i (0, 0)).2
/-- Ranges, as cells. -/
def rgGP (zp0 : type_of% @rA) (zp1 : type_of% @rB) (l : List Rg) (i : Nat) : List CV := [.int .i64 (zp0 l i), .int .i64 (zp1 l i)]
@[reducible] def rgG := rgGP rA rB
def rgOf : List CV → Rg
  | [.int .i64 a, .int .i64 b] => (a, b)
  | _ => (0, 0)
def rgL (n : Nat) (get : Nat → List CV) : List Rg := (List.range n).map fun i => rgOf (get i)
def RgAt (n : Nat) (get : Nat → List CV) : Prop := ∀ i, i < n → ∃ a b, get i = [.int .i64 a, .int .i64 b]
theorem rgL_len {n : Nat} {get : Nat → List CV} : (rgL n get).length = n := by simp [rgL]
theorem rgL_get {n : Nat} {get : Nat → List CV} {i : Nat} (h : i < n) : (rgL n get).getD i (0, 0) = rgOf (get i) := by simp [rgL, List.getD, List.getElem?_map, List.getElem?_range h]
theorem RgAt.eq {n : Nat} {get : Nat → List CV} (h : RgAt n get) {i : Nat} (hi : i < n) : get i = rgG (rgL n get) i := by
  obtain ⟨a, b, e⟩ := h i hi
  unfold rgG rgGP rA rB
  rw [rgL_get hi, e]
  rfl
theorem RgAt.same {n : Nat} {get : Nat → List CV} {ty : Nat} (h : RgAt n get) : hSame [.elems ty 2 n get] [.elems ty 2 n (rgG (rgL n get))] := ⟨⟨rfl, rfl, rfl, fun i hi => h.eq hi⟩, trivial⟩
theorem rgAt_rgG (n : Nat) (l : List Rg) : RgAt n (rgG l) := fun i _ => ⟨_, _, rfl⟩
theorem rgL_rgG (l : List Rg) : rgL l.length (rgG l) = l := by
  apply List.ext_getElem?
  intro i
  by_cases hi : i < l.length
  · simp [rgL, rgG, rgGP, rgOf, rA, rB, List.getElem?_range hi, List.getD, hi]
  · rw [List.getElem?_eq_none (by simp [rgL]; omega), List.getElem?_eq_none (by omega)]
theorem rgG_push (l : List Rg) (r : Rg) (i : Nat) (h : i < l.length + 1) : pushG l.length (rgG l) [.int .i64 r.1, .int .i64 r.2] i = rgG (l ++ [r]) i := by
  unfold pushG rgG rgGP rA rB
  by_cases hi : i < l.length
  · rw [show Nat.blt i l.length = true by simpa [Nat.blt_eq] using hi]
    simp [List.getD, List.getElem?_append_left hi]
  · rw [show Nat.blt i l.length = false by rw [Bool.eq_false_iff]; intro h2; exact hi (by simpa [Nat.blt_eq] using h2)]
    obtain rfl : i = l.length := by omega
    simp [List.getD]
/-- Numbers, as cells. -/
def iA (l : List Int) (i : Nat) : Int := l.getD i 0
def inGP (zp0 : type_of% @iA) (l : List Int) (i : Nat) : List CV := [.int .i64 (zp0 l i)]
@[reducible] def inG := inGP iA
def iOf : List CV → Int
  | [.int .i64 a] => a
  | _ => 0
def iL (n : Nat) (get : Nat → List CV) : List Int := (List.range n).map fun i => iOf (get i)
def InAt (n : Nat) (get : Nat → List CV) : Prop := ∀ i, i < n → ∃ a, get i = [.int .i64 a]
theorem iL_len {n : Nat} {get : Nat → List CV} : (iL n get).length = n := by simp [iL]
theorem InAt.eq {n : Nat} {get : Nat → List CV} (h : InAt n get) {i : Nat} (hi : i < n) : get i = inG (iL n get) i := by
  obtain ⟨a, e⟩ := h i hi
  unfold inG inGP iA
  rw [show (iL n get).getD i 0 = iOf (get i) by simp [iL, List.getD, List.getElem?_map, List.getElem?_range hi], e]
  rfl
theorem InAt.same {n : Nat} {get : Nat → List CV} {ty : Nat} (h : InAt n get) : hSame [.elems ty 1 n get] [.elems ty 1 n (inG (iL n get))] := ⟨⟨rfl, rfl, rfl, fun i hi => h.eq hi⟩, trivial⟩
theorem inAt_inG (n : Nat) (l : List Int) : InAt n (inG l) := fun i _ => ⟨_, rfl⟩
theorem iL_inG (l : List Int) : iL l.length (inG l) = l := by
  apply List.ext_getElem?
  intro i
  by_cases hi : i < l.length
  · simp [iL, inG, inGP, iOf, iA, List.getElem?_range hi, List.getD, hi]
  · rw [List.getElem?_eq_none (by simp [iL]; omega), List.getElem?_eq_none (by omega)]
theorem inG_push (l : List Int) (a : Int) (i : Nat) (h : i < l.length + 1) : pushG l.length (inG l) [.int .i64 a] i = inG (l ++ [a]) i := by
  unfold pushG inG inGP iA
  by_cases hi : i < l.length
  · rw [show Nat.blt i l.length = true by simpa [Nat.blt_eq] using hi]
    simp [List.getD, List.getElem?_append_left hi]
  · rw [show Nat.blt i l.length = false by rw [Bool.eq_false_iff]; intro h2; exact hi (by simpa [Nat.blt_eq] using h2)]
    obtain rfl : i = l.length := by omega
    simp [List.getD]
def srt (l : List Int) : List Int := l.mergeSort fun x y => decide (x ≤ y)
/-- What ranges lack from a place on: the ranges found, and where one stands behind. -/
def lkGo : List Rg → Int → Int → List Rg × Int
  | [], a, _ => ([], a)
  | r :: l, a, b => ((if a < r.1 ∧ a ≤ b then [(a, min (r.1 - 1) b)] else []) ++ (lkGo l (max a (r.2 + 1)) b).1, (lkGo l (max a (r.2 + 1)) b).2)
def lkEnd (a b : Int) : List Rg := if a ≤ b then [(a, b)] else []
def lacksL (l : List Rg) (a b : Int) : List Rg := if good l then (lkGo l (max a 0) (min b 72057594037927935)).1 ++ lkEnd (lkGo l (max a 0) (min b 72057594037927935)).2 (min b 72057594037927935) else []
def rgPre (ty one n : Nat) (get : Nat → List CV) : Prop := ty = 111 ∧ one = 2 ∧ RgAt n get ∧ n ≤ 1000000
def inPre (ty one n : Nat) (get : Nat → List CV) : Prop := ty = 3 ∧ one = 1 ∧ InAt n get ∧ n ≤ 1000000
def tbG : Tbl where
  T :=
    (3, ⟨1, false, [.int .i64 (0)], .int .i64, 8⟩) ::
    (4, ⟨1, false, [.ff], .bool, 1⟩) ::
    (22, ⟨1, false, [.val (.slice none 0 0)], .slice 3, 24⟩) ::
    (111, ⟨2, true, [.int .i64 (0), .int .i64 (0)], .struct [(0, (1, false)), (1, (1, false))], 16⟩) ::
    (25, ⟨1, false, [.val (.slice none 0 0)], .slice 111, 24⟩) ::
    (9, ⟨1, false, [.str []], .str, 16⟩) ::
    []
  F :=
    (111, [0, 0]) ::
    []

theorem tbG_ok : tbG.Ok Try.prog where
  T :=
    TblOk.cons (by kernel_rfl) <|
    TblOk.cons (by kernel_rfl) <|
    TblOk.cons (by kernel_rfl) <|
    TblOk.cons (by kernel_rfl) <|
    TblOk.cons (by kernel_rfl) <|
    TblOk.cons (by kernel_rfl) <|
    TblOk.nil _
  F :=
    FlatsOk.cons (FlatOk.of (D := .struct (Try.prog.fieldsOf 111)) 6 (by decide) (by kernel_rfl) (by kernel_rfl) rfl (by kernel_rfl)) <|
    FlatsOk.nil _

def sMayN : List SV → Option (Prop × SV)
  | [.c (.int .i64 n)] => some (True, .c (.bool (mayN n)))
  | _ => none

set_option maxRecDepth 100000 in
set_option maxHeartbeats 2000000 in
theorem mayNP : Pure Try.prog 76 sMayN := by
  have hC : CtsOk Try.prog [] := CtsOk.nil _
  refine Pure.of (E := tbG) (C := []) [] 0 [] tbG_ok hC (by kernel_rfl) Try.func76 rfl rfl rfl (by kernel_rfl) (by kernel_rfl) ?_ ?_
  · intro args pre r h
    unfold sMayN at h
    split at h
    · cases h; rfl
    · cases h
  · intro args pre r h hp
    unfold sMayN at h
    split at h
    rotate_left
    · cases h
    rename_i n
    cases h
    generalize ho0 : @mayN = zo0
    generalize hA : Arith.std = A
    cbv
    subst hA ho0
    refine Ife.mk (fun h => ?_) (fun h => ?_)
    · have h : 0 ≤ n := of_decide_eq_true (p := 0 ≤ n) h
      show decide (n ≤ 72057594037927935) = mayN n
      unfold mayN
      simp [h]
    · have h : ¬ 0 ≤ n := of_decide_eq_false (p := 0 ≤ n) h
      unfold mayN
      simp [h]

structure LGd (L : List Rg) (n : Nat) where
  i : Int
  h0 : 0 ≤ i
  h1 : i ≤ (n : Int)
  h2 : ∀ k, k < i.toNat → okAt L k = true
theorem okAt_no1 {L : List Rg} {i : Nat} (h : mayN (rA L i) = false) : okAt L i = false := by
  have h : mayN (L.getD i (0, 0)).1 = false := h
  unfold okAt; rw [h]; rfl
theorem okAt_no2 {L : List Rg} {i : Nat} (h : mayN (rB L i) = false) : okAt L i = false := by
  have h : mayN (L.getD i (0, 0)).2 = false := h
  unfold okAt; rw [h]; simp
theorem okAt_no3 {L : List Rg} {i : Nat} (h : rB L i < rA L i) : okAt L i = false := by
  rw [Bool.eq_false_iff]
  intro h2
  have := (okAt_iff.1 h2).1
  unfold rA rB at h
  omega
theorem okAt_no4 {L : List Rg} {i : Nat} (h0 : i ≠ 0) (h : rA L i - rB L (i - 1) < 2) : okAt L i = false := by
  rw [Bool.eq_false_iff]
  intro h2
  have := (okAt_iff.1 h2).2
  unfold rA rB at h
  omega
theorem okAt_yes {L : List Rg} {i : Nat} (h1 : mayN (rA L i) = true) (h2 : mayN (rB L i) = true) (h3 : ¬ rB L i < rA L i) (h4 : i = 0 ∨ ¬ rA L i - rB L (i - 1) < 2) : okAt L i = true := by
  have a1 := mayN_iff.1 h1
  have a2 := mayN_iff.1 h2
  refine okAt_iff.2 ⟨?_, ?_⟩ <;> unfold rA rB at * <;> omega
theorem okAt_b {L : List Rg} {i : Nat} (h : okAt L i = true) : 0 ≤ rA L i ∧ rA L i ≤ rB L i ∧ rB L i ≤ 72057594037927935 := (okAt_iff.1 h).1
def sGood : SpecF
  | [.c (.row 0)], [.elems ty one n get] => some (rgPre ty one n get, .c (.bool (good (rgL n get))), [.dead])
  | _, _ => none

set_option maxRecDepth 100000 in
set_option maxHeartbeats 4000000 in
theorem goodP : Fn Try.prog 21 [] [(111, 2)] sGood := by
  have hC : CtsOk Try.prog [(76, appPure sMayN)] := CtsOk.cons (Pure.ct mayNP) <| CtsOk.nil _
  refine Fn.of (E := tbG) [] 0 [(4, [(0, true), (1, true), (2, false), (3, true), (4, true), (5, true), (6, true), (7, false), (8, true), (9, true), (10, true), (11, true), (12, true), (13, true), (14, true), (15, true), (16, true), (17, true), (18, true), (19, true), (20, true), (21, true), (22, true), (23, true), (24, true), (25, true), (26, true), (27, true), (28, true), (29, true), (30, true), (31, true), (32, true)])] tbG_ok hC (by kernel_rfl) Try.func21 rfl rfl rfl (by kernel_rfl) (by kernel_rfl) 1 5 1 ?_ ?_
  · intro args h pre r h' hs
    unfold sGood at hs
    split at hs
    · cases hs; exact ⟨rfl, rfl, Nat.le_of_ble_eq_true rfl⟩
    · cases hs
  · intro args h pre r h' hs hp
    unfold sGood at hs
    split at hs
    rotate_left
    · cases hs
    rename_i ty one n get
    cases hs
    obtain ⟨rfl, rfl, hst, hm⟩ := hp
    refine ⟨[.elems 111 2 n (rgG (rgL n get))], hst.same, ?_⟩
    have hL : (rgL n get).length = n := rgL_len
    generalize rgL n get = L at hL ⊢
    unfold sMayN
    generalize hL : lft Try.prog _ = L
    try unfold rgG
    generalize ho0 : @rA = zo0, ho1 : @rB = zo1, ho2 : @rgL = zo2, ho3 : @good = zo3, ho4 : @okAt = zo4, ho5 : @mayN = zo5
    generalize hA : Arith.std = A
    cbv
    subst hA hL ho0 ho1 ho2 ho3 ho4 ho5
    show Runs Try.prog 1 (.loop _) _ _
    refine loop_ruleR (N := env (lft Try.prog 1) 0 .std tbG [(76, appPure sMayN)] [(4, [(0, true), (1, true), (2, false), (3, true), (4, true), (5, true), (6, true), (7, false), (8, true), (9, true), (10, true), (11, true), (12, true), (13, true), (14, true), (15, true), (16, true), (17, true), (18, true), (19, true), (20, true), (21, true), (22, true), (23, true), (24, true), (25, true), (26, true), (27, true), (28, true), (29, true), (30, true), (31, true), (32, true)])]) rfl tbG_ok hC (fun c st K _ h => h) (by kernel_rfl) [] (X := LGd L n)
      (S := fun x => ⟨[.c (.row 0), .any, .any, .any, .any, .c (.row 0), .c (.int .i64 n), .c (.int .i64 x.i)] ++ List.replicate 38 .any, [.elems 111 2 n (rgG L)]⟩) (μ := fun x => n - x.i.toNat) ⟨0, by omega, by omega, fun k hk => absurd hk (by show ¬ k < (0 : Int).toNat; omega)⟩ (by kernel_rfl) [0] ?_ ?_
    · refine ⟨rfl, by decide, ?_, ?_⟩ <;> repeat' (first | exact trivial | exact rfl | apply And.intro)
    rintro ⟨i, hi0, hin, hall⟩
    unfold sMayN
    generalize hL : lft Try.prog _ = L
    try dsimp only
    try unfold rgG
    generalize ho0 : @rA = zo0, ho1 : @rB = zo1, ho2 : @rgL = zo2, ho3 : @good = zo3, ho4 : @okAt = zo4, ho5 : @mayN = zo5
    generalize hA : Arith.std = A
    cbv
    subst hA hL ho0 ho1 ho2 ho3 ho4 ho5
    replace hi0 : 0 ≤ i := hi0
    replace hin : i ≤ @Nat.cast Int instNatCastInt n := hin
    replace hall : ∀ k, k < i.toNat → okAt L k = true := hall
    refine Ife.mk (fun hlt => ?_) (fun hlt => ?_)
    · replace hlt : i < @Nat.cast Int instNatCastInt n := of_decide_eq_true (p := i < (n : Int)) hlt
      refine Need.mk (by show 0 ≤ i ∧ i < (n : Int); omega) fun _ => Need.mk (by show i.toNat < n; omega) fun _ => Need.mk trivial fun _ => ?_
      have no : okAt L i.toNat = false → good L = false := good_at (by omega)
      refine Ife.mk (fun h => ?_) (fun h => ?_)
      · have h : mayN (rA L i.toNat) = false := by
          have h6 : (!mayN (rA L i.toNat)) = true := h
          simpa using h6
        rw [no (okAt_no1 h)]
        exact ⟨[0], ⟨rfl, rfl, by decide, rfl, by repeat' (first | exact trivial | exact rfl | apply And.intro)⟩⟩
      have h1 : mayN (rA L i.toNat) = true := by
        have h6 : (!mayN (rA L i.toNat)) = false := h
        simpa using h6
      refine Need.mk trivial fun _ => ?_
      refine Ife.mk (fun h => ?_) (fun h => ?_)
      · have h : mayN (rB L i.toNat) = false := by
          have h6 : (!mayN (rB L i.toNat)) = true := h
          simpa using h6
        rw [no (okAt_no2 h)]
        exact ⟨[0], ⟨rfl, rfl, by decide, rfl, by repeat' (first | exact trivial | exact rfl | apply And.intro)⟩⟩
      have h2 : mayN (rB L i.toNat) = true := by
        have h6 : (!mayN (rB L i.toNat)) = false := h
        simpa using h6
      refine Ife.mk (fun h => ?_) (fun h => ?_)
      · have h : rB L i.toNat < rA L i.toNat := of_decide_eq_true (p := rB L i.toNat < rA L i.toNat) h
        rw [no (okAt_no3 h)]
        exact ⟨[0], ⟨rfl, rfl, by decide, rfl, by repeat' (first | exact trivial | exact rfl | apply And.intro)⟩⟩
      have h3 : ¬ rB L i.toNat < rA L i.toNat := of_decide_eq_false (p := rB L i.toNat < rA L i.toNat) h
      have b1 := mayN_iff.1 h1
      refine Ife.mk (fun h => ?_) (fun h => ?_)
      · have h : 0 < i := of_decide_eq_true (p := 0 < i) h
        have e : (i - 1).toNat = i.toNat - 1 := by omega
        have b2 := okAt_b (hall (i - 1).toNat (by omega))
        refine Need.mk (by show fitStd .i64 (i - 1); unfold fitStd; omega) fun _ => Need.mk (by show 0 ≤ i - 1 ∧ i - 1 < (n : Int); omega) fun _ => Need.mk (by show (i - 1).toNat < n; omega) fun _ => Need.mk (by show fitStd .i64 (rA L i.toNat - rB L (i - 1).toNat); unfold fitStd; omega) fun _ => ?_
        refine Ife.mk (fun h => ?_) (fun h => ?_)
        · have h : rA L i.toNat - rB L (i - 1).toNat < 2 := of_decide_eq_true (p := rA L i.toNat - rB L (i - 1).toNat < 2) h
          rw [e] at h
          rw [no (okAt_no4 (by omega) h)]
          exact ⟨[0], ⟨rfl, rfl, by decide, rfl, by repeat' (first | exact trivial | exact rfl | apply And.intro)⟩⟩
        have h4 : ¬ rA L i.toNat - rB L (i - 1).toNat < 2 := of_decide_eq_false (p := rA L i.toNat - rB L (i - 1).toNat < 2) h
        rw [e] at h4
        have hok := okAt_yes h1 h2 h3 (Or.inr h4)
        refine Need.mk (by show fitStd .i64 (i + 1); unfold fitStd; omega) fun _ => ?_
        refine ⟨⟨i + 1, by omega, by omega, ?h2⟩, [0], (by show n - (i + 1).toNat < n - i.toNat; omega), ?st⟩
        case st => refine ⟨rfl, by decide, ?_, ?_⟩ <;> repeat' (first | exact trivial | exact rfl | apply And.intro)
        case h2 =>
          intro k hk
          by_cases hk2 : k = i.toNat
          · rw [hk2]; exact hok
          · exact hall k (by omega)
      · have h : ¬ 0 < i := of_decide_eq_false (p := 0 < i) h
        have hok := okAt_yes h1 h2 h3 (Or.inl (by omega))
        refine Need.mk (by show fitStd .i64 (i + 1); unfold fitStd; omega) fun _ => ?_
        refine ⟨⟨i + 1, by omega, by omega, ?h2⟩, [0], (by show n - (i + 1).toNat < n - i.toNat; omega), ?st⟩
        case st => refine ⟨rfl, by decide, ?_, ?_⟩ <;> repeat' (first | exact trivial | exact rfl | apply And.intro)
        case h2 =>
          intro k hk
          by_cases hk2 : k = i.toNat
          · rw [hk2]; exact hok
          · exact hall k (by omega)
    · replace hlt : ¬ i < @Nat.cast Int instNatCastInt n := of_decide_eq_false (p := i < (n : Int)) hlt
      rw [show good L = true from good_iff.2 fun k hk => hall k (by omega)]
      exact ⟨[0], ⟨rfl, rfl, by decide, rfl, by repeat' (first | exact trivial | exact rfl | apply And.intro)⟩⟩

end Go.Proofs.Ytcgoaicifjndpaa.Vx
end

section
/- Ranges of numbers: Count, All, Lacks, by the walker. -/
namespace Go.Proofs.Ytcgoaicifjndpaa.Vx
open Go.RowKit Span
set_option linter.unusedVariables false
set_option linter.unusedSimpArgs false
def countG (l : List Rg) : Int := if good l then count l else 0
def allG (l : List Rg) (m : Int) : List Int := if good l then (runs l).take m.toNat else []
theorem good_take {L : List Rg} (h : good L = true) {i : Nat} (hi : i < L.length) : 0 ≤ rA L i ∧ rA L i ≤ rB L i ∧ rB L i ≤ 72057594037927935 ∧ (0 < i → rB L (i - 1) + 2 ≤ rA L i) := by
  have h1 := okAt_iff.1 (good_iff.1 h i hi)
  unfold rA rB
  omega
theorem take_succ' {α : Type} (L : List α) {i : Nat} (hi : i < L.length) : L.take (i + 1) = L.take i ++ [L[i]] := by
  rw [List.take_add_one, List.getElem?_eq_getElem hi]; rfl
theorem getD_get {L : List Rg} {i : Nat} (hi : i < L.length) : L[i] = (rA L i, rB L i) := by
  unfold rA rB
  rw [List.getD_eq_getElem?_getD, List.getElem?_eq_getElem hi]
  rfl
theorem count_take {L : List Rg} {i : Nat} (hi : i < L.length) : count (L.take (i + 1)) = count (L.take i) + (rB L i - rA L i + 1) := by
  rw [take_succ' L hi, getD_get hi]
  simp [count, List.sum_append]
theorem runs_take {L : List Rg} {i : Nat} (hi : i < L.length) : runs (L.take (i + 1)) = runs (L.take i) ++ runR (rA L i, rB L i) := by
  rw [take_succ' L hi, getD_get hi, runs_app, runs_one]
def seqR (a v : Int) : List Int := (List.range (v - a).toNat).map fun i => a + ((i : Nat) : Int)
theorem seqR_succ {a v : Int} (h : a ≤ v) : seqR a (v + 1) = seqR a v ++ [v] := by
  have e : (v + 1 - a).toNat = (v - a).toNat + 1 := by omega
  unfold seqR
  simp only [e, List.range_succ, List.map_append, List.map_cons, List.map_nil]
  congr 2
  omega
theorem seqR_self (a : Int) : seqR a a = [] := by unfold seqR; simp
theorem seqR_app {a v b : Int} (h0 : a ≤ v) (h1 : v ≤ b + 1) : runR (a, b) = seqR a v ++ seqR v (b + 1) := by
  obtain ⟨k, hk⟩ : ∃ k : Nat, b + 1 = v + (k : Int) := ⟨(b + 1 - v).toNat, by omega⟩
  obtain rfl : b = v + (k : Int) - 1 := by omega
  clear h1 hk
  show seqR a (v + k - 1 + 1) = _
  rw [show v + (k : Int) - 1 + 1 = v + k by omega]
  induction k with
  | zero => rw [show v + ((0 : Nat) : Int) = v by omega, seqR_self, List.append_nil]
  | succ k ih => rw [show v + ((k + 1 : Nat) : Int) = (v + k) + 1 by omega, seqR_succ (by omega), seqR_succ (by omega), ih, List.append_assoc]
theorem seqR_all (a b : Int) : seqR a (b + 1) = runR (a, b) := rfl
structure LCt (L : List Rg) (n : Nat) where
  i : Int
  a : Int
  h0 : 0 ≤ i
  h1 : i ≤ (n : Int)
  h2 : a = count (L.take i.toNat)
  h3 : 0 ≤ a
  h4 : i = 0 → a = 0
  h5 : 0 < i → a ≤ rB L (i.toNat - 1) + 1
structure LAl (L : List Rg) (n : Nat) (m : Int) where
  i : Int
  l : List Int
  h0 : 0 ≤ i
  h1 : i ≤ (n : Int)
  h2 : l = (runs (L.take i.toNat)).take m.toNat
structure LAi (L : List Rg) (m : Int) (i : Nat) where
  v : Int
  l : List Int
  h0 : rA L i ≤ v
  h1 : v ≤ rB L i + 1
  h2 : l = (runs (L.take i) ++ seqR (rA L i) v).take m.toNat
theorem lkGo_drop {L : List Rg} {i : Nat} (hi : i < L.length) (a b : Int) : lkGo (L.drop i) a b = ((if a < rA L i ∧ a ≤ b then [(a, min (rA L i - 1) b)] else []) ++ (lkGo (L.drop (i + 1)) (max a (rB L i + 1)) b).1, (lkGo (L.drop (i + 1)) (max a (rB L i + 1)) b).2) := by
  rw [List.drop_eq_getElem_cons hi, getD_get hi]
  rfl
structure LLk (L : List Rg) (n : Nat) (a0 b0 : Int) where
  i : Int
  a : Int
  l : List Rg
  h0 : 0 ≤ i
  h1 : i ≤ (n : Int)
  h2 : lkGo L a0 b0 = (l ++ (lkGo (L.drop i.toNat) a b0).1, (lkGo (L.drop i.toNat) a b0).2)
  h3 : 0 ≤ a
  h4 : (l.length : Int) ≤ i
def sCount : SpecF
  | [.c (.row 0)], [.elems ty one n get] => some (rgPre ty one n get, .c (.int .i64 (countG (rgL n get))), [.dead])
  | _, _ => none

set_option maxRecDepth 100000 in
set_option maxHeartbeats 4000000 in
theorem countP : Fn Try.prog 27 [] [(111, 2)] sCount := by
  have hC : CtsOk Try.prog [(21, appFn [] [(111, 2)] sGood)] := CtsOk.cons (Fn.ct goodP) <| CtsOk.nil _
  refine Fn.of (E := tbG) [] 0 [] tbG_ok hC (by kernel_rfl) Try.func27 rfl rfl rfl (by kernel_rfl) (by kernel_rfl) 1 5 1 ?_ ?_
  · intro args h pre r h' hs
    unfold sCount at hs
    split at hs
    · cases hs; exact ⟨rfl, rfl, Nat.le_of_ble_eq_true rfl⟩
    · cases hs
  · intro args h pre r h' hs hp
    unfold sCount at hs
    split at hs
    rotate_left
    · cases hs
    rename_i ty one n get
    cases hs
    obtain ⟨rfl, rfl, hst, hm⟩ := hp
    refine ⟨[.elems 111 2 n (rgG (rgL n get))], hst.same, ?_⟩
    have hL : (rgL n get).length = n := rgL_len
    generalize rgL n get = L at hL ⊢
    have eL : rgL n (rgG L) = L := by rw [← hL]; exact rgL_rgG L
    unfold sGood
    generalize hL : lft Try.prog _ = L
    try unfold rgG
    generalize ho0 : @rA = zo0, ho1 : @rB = zo1, ho2 : @rgL = zo2, ho3 : @good = zo3, ho4 : @count = zo4, ho5 : @countG = zo5, ho6 : @rgPre = zo6
    generalize hA : Arith.std = A
    cbv
    subst hA hL ho0 ho1 ho2 ho3 ho4 ho5 ho6
    refine Need.mk ⟨rfl, rfl, rgAt_rgG n L, hm⟩ fun _ => ?_
    refine Ife.mk (fun h => ?_) (fun h => ?_)
    · have h : good (rgL n (rgG L)) = false := by
        have h6 : (!good (rgL n (rgG L))) = true := h
        simpa using h6
      rw [eL] at h
      rw [show countG L = 0 by unfold countG; rw [h]; rfl]
      exact ⟨[0], ⟨rfl, by repeat' (first | exact trivial | exact rfl | apply And.intro), by decide, rfl, by repeat' (first | exact trivial | exact rfl | apply And.intro)⟩⟩
    have hg : good (rgL n (rgG L)) = true := by
      have h6 : (!good (rgL n (rgG L))) = false := h
      simpa using h6
    rw [eL] at hg
    rw [show countG L = count L by unfold countG; rw [hg]; rfl]
    show Runs Try.prog 1 (.loop _) _ _
    refine loop_ruleR (N := env (lft Try.prog 1) 0 .std tbG [(21, appFn [] [(111, 2)] sGood)] []) rfl tbG_ok hC (fun c st K _ h => h) (by kernel_rfl) [] (X := LCt L n)
      (S := fun x => ⟨[.c (.row 0), .any, .any, .c (.int .i64 x.a), .any, .any, .any, .any, .any, .c (.row 0), .c (.int .i64 n), .c (.int .i64 x.i)] ++ List.replicate 13 .any, [.elems 111 2 n (rgG L)]⟩) (μ := fun x => n - x.i.toNat) ⟨0, 0, by omega, by omega, rfl, by omega, fun _ => rfl, fun h => by omega⟩ (by kernel_rfl) [0] ?_ ?_
    · refine ⟨rfl, by decide, ?_, ?_⟩ <;> repeat' (first | exact trivial | exact rfl | apply And.intro)
    rintro ⟨i, a, hi0, hin, ha, ha0, hz, hb⟩
    unfold sGood
    generalize hL : lft Try.prog _ = L
    try dsimp only
    try unfold rgG
    generalize ho0 : @rA = zo0, ho1 : @rB = zo1, ho2 : @rgL = zo2, ho3 : @good = zo3, ho4 : @count = zo4, ho5 : @countG = zo5, ho6 : @rgPre = zo6
    generalize hA : Arith.std = A
    cbv
    subst hA hL ho0 ho1 ho2 ho3 ho4 ho5 ho6
    replace hi0 : 0 ≤ i := hi0
    replace hin : i ≤ @Nat.cast Int instNatCastInt n := hin
    replace ha : a = count (L.take i.toNat) := ha
    replace ha0 : 0 ≤ a := ha0
    replace hz : i = 0 → a = 0 := hz
    replace hb : 0 < i → a ≤ rB L (i.toNat - 1) + 1 := hb
    refine Ife.mk (fun hlt => ?_) (fun hlt => ?_)
    · replace hlt : i < @Nat.cast Int instNatCastInt n := of_decide_eq_true (p := i < (n : Int)) hlt
      have hg1 := good_take hg (i := i.toNat) (by omega)
      have hA : a + (rB L i.toNat - rA L i.toNat + 1) ≤ rB L i.toNat + 1 := by
        rcases Int.lt_or_eq_of_le hi0 with h | h
        · have := hb h; have := hg1.2.2.2 (by omega); omega
        · have := hz h.symm; omega
      repeat refine Need.mk (by first | exact trivial | (simp only [Arith.std, fitStd]; omega) | (simp [Arith.std, fitStd]; omega)) fun _ => ?_
      refine ⟨⟨i + 1, a + (rB L i.toNat - rA L i.toNat + 1), by omega, by omega, ?h2, by omega, fun h => by omega, fun _ => (by rw [show (i + 1).toNat - 1 = i.toNat by omega]; exact hA)⟩, [0], (by show n - (i + 1).toNat < n - i.toNat; omega), ?st⟩
      case st => refine ⟨rfl, by decide, ?_, ?_⟩ <;> repeat' (first | exact trivial | exact rfl | apply And.intro)
      case h2 => rw [show (i + 1).toNat = i.toNat + 1 by omega, count_take (by omega), ha]
    · replace hlt : ¬ i < @Nat.cast Int instNatCastInt n := of_decide_eq_false (p := i < (n : Int)) hlt
      rw [show count L = a by rw [ha, List.take_of_length_le (by omega)]]
      exact ⟨[0], ⟨rfl, by repeat' (first | exact trivial | exact rfl | apply And.intro), by decide, rfl, by repeat' (first | exact trivial | exact rfl | apply And.intro)⟩⟩

def allPre (ty one n : Nat) (get : Nat → List CV) (m : Int) : Prop := rgPre ty one n get ∧ m ≤ 1000000
def sAll : SpecF
  | [.c (.row 0), .c (.int .i64 m)], [.elems ty one n get] => some (allPre ty one n get m, .c (.row 1), [.dead, .row 3 1 (allG (rgL n get) m).length (inG (allG (rgL n get) m))])
  | _, _ => none

set_option maxRecDepth 100000 in
set_option maxHeartbeats 4000000 in
theorem allP : Fn Try.prog 31 [] [(111, 2)] sAll := by
  have hC : CtsOk Try.prog [(21, appFn [] [(111, 2)] sGood)] := CtsOk.cons (Fn.ct goodP) <| CtsOk.nil _
  refine Fn.of (E := tbG) [] 0 [] tbG_ok hC (by kernel_rfl) Try.func31 rfl rfl rfl (by kernel_rfl) (by kernel_rfl) 1 3 1 ?_ ?_
  · intro args h pre r h' hs
    unfold sAll at hs
    split at hs
    · cases hs; exact ⟨rfl, rfl, Nat.le_of_ble_eq_true rfl⟩
    · cases hs
  · intro args h pre r h' hs hp
    unfold sAll at hs
    split at hs
    rotate_left
    · cases hs
    rename_i m ty one n get
    cases hs
    obtain ⟨⟨rfl, rfl, hst, hm⟩, hmm⟩ := hp
    refine ⟨[.elems 111 2 n (rgG (rgL n get))], hst.same, ?_⟩
    have hL : (rgL n get).length = n := rgL_len
    generalize rgL n get = L at hL ⊢
    have eL : rgL n (rgG L) = L := by rw [← hL]; exact rgL_rgG L
    unfold sGood
    generalize hL : lft Try.prog _ = L
    try unfold rgG
    try unfold inG
    generalize ho0 : @rA = zo0, ho1 : @rB = zo1, ho2 : @rgL = zo2, ho3 : @good = zo3, ho4 : @runs = zo4, ho5 : @iA = zo5, ho6 : @allG = zo6, ho7 : @seqR = zo7, ho8 : @rgPre = zo8, ho9 : @allPre = zo9
    generalize hA : Arith.std = A
    cbv
    subst hA hL ho0 ho1 ho2 ho3 ho4 ho5 ho6 ho7 ho8 ho9
    refine Need.mk ⟨rfl, rfl, rgAt_rgG n L, hm⟩ fun _ => ?_
    refine Ife.mk (fun h => ?_) (fun h => ?_)
    · have h : good (rgL n (rgG L)) = false := by
        have h6 : (!good (rgL n (rgG L))) = true := h
        simpa using h6
      rw [eL] at h
      rw [show allG L m = [] by unfold allG; rw [h]; rfl]
      exact ⟨[0, 2], ⟨rfl, rfl, (by show List.Nodup [2]; decide), rfl, by repeat' (first | exact trivial | exact rfl | apply And.intro | (intro i hi; rfl) | (intro i hi; exact absurd hi (Nat.not_lt_zero _)))⟩⟩
    have hg : good (rgL n (rgG L)) = true := by
      have h6 : (!good (rgL n (rgG L))) = false := h
      simpa using h6
    rw [eL] at hg
    rw [show allG L m = (runs L).take m.toNat by unfold allG; rw [hg]; rfl]
    refine Runs.nilTmp 5 3 1 (inG []) rfl ?_
    show Runs Try.prog 1 (.loop _) _ _
    refine loop_ruleR (N := env (lft Try.prog 1) 0 .std tbG [(21, appFn [] [(111, 2)] sGood)] []) rfl tbG_ok hC (fun c st K _ h => h) (by kernel_rfl) [] (X := LAl L n m)
      (S := fun x => ⟨[.c (.row 0), .c (.int .i64 m), .any, .any, .any, .c (.row 2), .any, .any, .any, .any, .any, .any, .c (.row 0), .c (.int .i64 n), .c (.int .i64 x.i)] ++ List.replicate 23 .any, [.elems 111 2 n (rgG L), .dead, .row 3 1 x.l.length (inG x.l)]⟩) (μ := fun x => n - x.i.toNat) ⟨0, [], by omega, by omega, by simp [runs]⟩ (by kernel_rfl) [0, 1, 2] ?_ ?_
    · refine ⟨rfl, by decide, ?_, ?_⟩ <;> repeat' (first | exact trivial | exact rfl | apply And.intro | (intro i hi; rfl) | (intro i hi; exact absurd hi (Nat.not_lt_zero _)))
    rintro ⟨i, l, hi0, hin, hl⟩
    unfold sGood
    generalize hg0 : (List.length : List Int → Nat) = g0
    generalize hL : lft Try.prog _ = L
    try dsimp only
    try unfold rgG
    try unfold inG
    generalize ho0 : @rA = zo0, ho1 : @rB = zo1, ho2 : @rgL = zo2, ho3 : @good = zo3, ho4 : @runs = zo4, ho5 : @iA = zo5, ho6 : @allG = zo6, ho7 : @seqR = zo7, ho8 : @rgPre = zo8, ho9 : @allPre = zo9
    generalize hA : Arith.std = A
    cbv
    subst hA hg0 hL ho0 ho1 ho2 ho3 ho4 ho5 ho6 ho7 ho8 ho9
    replace hi0 : 0 ≤ i := hi0
    replace hin : i ≤ @Nat.cast Int instNatCastInt n := hin
    replace hl : l = (runs (L.take i.toNat)).take m.toNat := hl
    refine Ife.mk (fun hlt => ?_) (fun hlt => ?_)
    · replace hlt : i < @Nat.cast Int instNatCastInt n := of_decide_eq_true (p := i < (n : Int)) hlt
      have hg1 := good_take hg (i := i.toNat) (by omega)
      repeat refine Need.mk (by first | exact trivial | (simp only [Arith.std, fitStd]; omega) | (simp [Arith.std, fitStd]; omega)) fun _ => ?_
      show Runs Try.prog 1 (.loop _) _ _
      refine loop_ruleR (N := env (lft Try.prog 1) 0 .std tbG [(21, appFn [] [(111, 2)] sGood)] []) rfl tbG_ok hC (fun c st K _ h => h) (by kernel_rfl) [] (X := LAi L m i.toNat)
        (S := fun x => ⟨[.c (.row 0), .c (.int .i64 m), .any, .any, .any, .c (.row 2), .any, .c (.ptr 3 0), .c (.int .i64 x.v), .any, .any, .any, .c (.row 0), .c (.int .i64 n), .c (.int .i64 i)] ++ List.replicate 23 .any, [.elems 111 2 n (rgG L), .dead, .row 3 1 x.l.length (inG x.l), .cells 111 [.int .i64 (rA L i.toNat), .int .i64 (rB L i.toNat)]]⟩) (μ := fun x => (rB L i.toNat + 1 - x.v).toNat) ⟨rA L i.toNat, l, by omega, by omega, by rw [seqR_self, List.append_nil]; exact hl⟩ (by kernel_rfl) [0, 1, 2, 3] ?_ ?_
      · refine ⟨rfl, by decide, ?_, ?_⟩ <;> repeat' (first | exact trivial | exact rfl | apply And.intro | (intro i hi; rfl) | (intro i hi; exact absurd hi (Nat.not_lt_zero _)))
      rintro ⟨v, k, hv0, hv1, hk⟩
      unfold sGood
      generalize hg0 : (List.length : List Int → Nat) = g0
      generalize hL : lft Try.prog _ = L
      try dsimp only
      try unfold rgG
      try unfold inG
      generalize ho0 : @rA = zo0, ho1 : @rB = zo1, ho2 : @rgL = zo2, ho3 : @good = zo3, ho4 : @runs = zo4, ho5 : @iA = zo5, ho6 : @allG = zo6, ho7 : @seqR = zo7, ho8 : @rgPre = zo8, ho9 : @allPre = zo9
      generalize hA : Arith.std = A
      cbv
      subst hA hg0 hL ho0 ho1 ho2 ho3 ho4 ho5 ho6 ho7 ho8 ho9
      replace hi0 : 0 ≤ i := hi0
      replace hin : i ≤ @Nat.cast Int instNatCastInt n := hin
      replace hlt : i < @Nat.cast Int instNatCastInt n := hlt
      replace hv0 : rA L i.toNat ≤ v := hv0
      replace hv1 : v ≤ rB L i.toNat + 1 := hv1
      replace hk : k = (runs (L.take i.toNat) ++ seqR (rA L i.toNat) v).take m.toNat := hk
      have kl : k.length ≤ m.toNat := by rw [hk]; exact List.length_take_le _ _
      refine Ife.mk (fun h => ?_) (fun h => ?_)
      · have h : v ≤ rB L i.toNat := of_decide_eq_true (p := v ≤ rB L i.toNat) h
        refine Ife.mk (fun h2 => ?_) (fun h2 => ?_)
        · have h2 : (k.length : Int) < m := of_decide_eq_true (p := (k.length : Int) < m) h2
          refine Need.mk (by show k.length + 1 ≤ maxLen ∧ (k.length + 1) * 8 ≤ 140737488355328; unfold maxLen; omega) fun _ => Need.mk (by show fitStd .i64 (v + 1); unfold fitStd; omega) fun _ => ?_
          refine ⟨⟨v + 1, k ++ [v], by omega, by omega, ?h2⟩, [0, 1, 5, 3], (by show (rB L i.toNat + 1 - (v + 1)).toNat < (rB L i.toNat + 1 - v).toNat; omega), ?st⟩
          case st =>
            refine ⟨rfl, by decide, ?_, ?_⟩
            · repeat' (first | exact trivial | exact rfl | apply And.intro)
            · repeat' (first | exact trivial | exact rfl | apply And.intro)
              · simp
              · intro j hj
                exact inG_push k v j (by simpa using hj)
          case h2 =>
            have e : (runs (L.take i.toNat) ++ seqR (rA L i.toNat) v).length < m.toNat := by
              have h3 : k.length = min m.toNat (runs (L.take i.toNat) ++ seqR (rA L i.toNat) v).length := by rw [hk, List.length_take]
              omega
            rw [seqR_succ hv0, ← List.append_assoc, hk, List.take_of_length_le (l := runs (L.take i.toNat) ++ seqR (rA L i.toNat) v) (Nat.le_of_lt e), List.take_of_length_le (l := runs (L.take i.toNat) ++ seqR (rA L i.toNat) v ++ [v]) (by rw [List.length_append, List.length_singleton]; omega)]
        · have h2 : ¬ (k.length : Int) < m := of_decide_eq_false (p := (k.length : Int) < m) h2
          refine Need.mk (by show fitStd .i64 (i + 1); unfold fitStd; omega) fun _ => ?_
          refine ⟨⟨i + 1, k, by omega, by omega, ?h2⟩, [0, 1, 2], (by show n - (i + 1).toNat < n - i.toNat; omega), ?st⟩
          case st => refine ⟨rfl, by decide, ?_, ?_⟩ <;> repeat' (first | exact trivial | exact rfl | apply And.intro | (intro i hi; rfl) | (intro i hi; exact absurd hi (Nat.not_lt_zero _)))
          case h2 =>
            have e : m.toNat ≤ (runs (L.take i.toNat) ++ seqR (rA L i.toNat) v).length := by
              have h3 : k.length = min m.toNat (runs (L.take i.toNat) ++ seqR (rA L i.toNat) v).length := by rw [hk, List.length_take]
              omega
            rw [show (i + 1).toNat = i.toNat + 1 by omega, runs_take (by omega), seqR_app hv0 hv1, ← List.append_assoc, List.take_append_of_le_length e, hk]
      · have h : ¬ v ≤ rB L i.toNat := of_decide_eq_false (p := v ≤ rB L i.toNat) h
        refine Need.mk (by show fitStd .i64 (i + 1); unfold fitStd; omega) fun _ => ?_
        refine ⟨⟨i + 1, k, by omega, by omega, ?h2⟩, [0, 1, 2], (by show n - (i + 1).toNat < n - i.toNat; omega), ?st⟩
        case st => refine ⟨rfl, by decide, ?_, ?_⟩ <;> repeat' (first | exact trivial | exact rfl | apply And.intro | (intro i hi; rfl) | (intro i hi; exact absurd hi (Nat.not_lt_zero _)))
        case h2 => rw [show (i + 1).toNat = i.toNat + 1 by omega, runs_take (by omega), ← seqR_all, hk, show v = rB L i.toNat + 1 by omega]
    · replace hlt : ¬ i < @Nat.cast Int instNatCastInt n := of_decide_eq_false (p := i < (n : Int)) hlt
      rw [show (runs L).take m.toNat = l by rw [hl, List.take_of_length_le (show L.length ≤ i.toNat by omega)]]
      exact ⟨[0, 2], ⟨rfl, rfl, (by show List.Nodup [2]; decide), rfl, by repeat' (first | exact trivial | exact rfl | apply And.intro | (intro i hi; rfl) | (intro i hi; exact absurd hi (Nat.not_lt_zero _)))⟩⟩

end Go.Proofs.Ytcgoaicifjndpaa.Vx
end

section
/- slices.Clone and slices.Sort of integers, as contracts for the walker. -/
namespace Go.Proofs.Ytcgoaicifjndpaa.Vx
open Go.RowKit Span
set_option linter.unusedVariables false
set_option linter.unusedSimpArgs false
theorem ownsRow_base0 {W : World} {b : Nat} {e : TypeId} {sz n : Nat} {v : Value} {xs : List Value} (h : W.ownsRow b e sz v n xs) : W.ownsRow 0 e sz v n xs :=
  ⟨h.1, h.2.imp id fun ⟨g, cap, cur, h1, _, h3⟩ => ⟨g, cap, cur, h1, Nat.zero_le _, h3⟩⟩
/-- Cells that are known to be integers. -/
theorem ints_of {n : Nat} {get : Nat → List CV} {vs : List Value} (h : InAt n get) (hl : vs.length = n) (hv : ∀ i, i < n → IsL [] (get i) ((vs.drop (i * 1)).take 1)) : vs = (iL n get).map (Value.int .i64) := by
  apply List.ext_getElem?
  intro i
  by_cases hi : i < n
  · obtain ⟨a, ea⟩ := h i hi
    have h1 := hv i hi
    rw [ea] at h1
    have h2 : (vs.drop (i * 1)).take 1 = [.int .i64 a] := h1.unique (show IsL [] [.int .i64 a] [.int .i64 a] from rfl)
    have h3 : vs[i]? = some (.int .i64 a) := by
      have := congrArg (fun l => l[0]?) h2
      simpa using this
    rw [h3, List.getElem?_map]
    have h4 : (iL n get)[i]? = some a := by
      unfold iL
      rw [List.getElem?_map, List.getElem?_range hi]
      simp [ea, iOf]
    rw [h4]
    rfl
  · rw [List.getElem?_eq_none (by omega), List.getElem?_eq_none (by simp [iL_len]; omega)]
theorem row_ints (zs : List Int) (i : Nat) (hi : i < zs.length) : IsL [] (inG zs i) (((zs.map (Value.int .i64)).drop (i * 1)).take 1) := by
  have h1 : ((zs.map (Value.int .i64)).drop (i * 1)).take 1 = [.int .i64 (iA zs i)] := by
    rw [Nat.mul_one, List.drop_eq_getElem_cons (by simpa using hi)]
    simp [iA, List.getD, hi]
  rw [h1]
  rfl
def sortPre (n : Nat) (get : Nat → List CV) : Prop := InAt n get ∧ n ≤ 1000000
def appSort : App := fun args h => match args with
  | [.c (.row k)] => match h[k]? with
    | some (.row e sz n get) => match Nat.beq e 3 && Nat.beq sz 1 with
      | true => some ⟨sortPre n get, .tup [], h.set k (.row 3 1 n (inG (srt (iL n get)))), [k]⟩
      | false => none
    | _ => none
  | _ => none
theorem srt_len (l : List Int) : (srt l).length = l.length := by unfold srt; exact List.length_mergeSort l
/-- Another entry is said of what lies at a place. -/
theorem Rel.setE {w0 : World} {G : Gs} {ρ : List Pl} {h : List Ent} {W : World} (r : Rel w0 G ρ h W) {i : Nat} {p : Pl} {e0 en : Ent} (hi : h[i]? = some e0) (hp : ρ[i]? = some p) (hf : en.fp p = e0.fp p) (hen : en.isElems = false) (hok : en.ok ρ p W) (hdat : en.dat W (Dom w0 G ρ (h.set i en) W) p := by exact True.intro) : Rel w0 G ρ (h.set i en) W := by
  have hlt : i < h.length := (List.getElem?_eq_some_iff.1 hi).1
  have hget : ∀ j e, (h.set i en)[j]? = some e → (j = i ∧ e = en) ∨ (j ≠ i ∧ h[j]? = some e) := fun j e he => by
    by_cases hj : j = i
    · subst hj
      rw [List.getElem?_set_self hlt] at he
      exact Or.inl ⟨rfl, (Option.some.inj he).symm⟩
    · rw [List.getElem?_set_ne (fun e => hj e.symm)] at he
      exact Or.inr ⟨hj, he⟩
  have hfp : ∀ j b, fp ρ (h.set i en) j = some b → fp ρ h j = some b := fun j b hf' => by
    obtain ⟨e, q, he, hq, hx⟩ := fp_some hf'
    rcases hget j e he with ⟨rfl, rfl⟩ | ⟨hj, he'⟩
    · rw [hp] at hq
      cases hq
      rw [fp_mk hi hp, ← hf]; exact hx
    · rw [fp_mk he' hq]; exact hx
  refine ⟨by rw [List.length_set]; exact r.len, fun j e q he hq => ?_, fun j b hf' => r.own j b (hfp j b hf'), fun j k b h1 h2 => r.dis j k b (hfp j b h1) (hfp k b h2), r.kept, fun j e q he hq => ?_, r.os, r.tape, r.output, r.size⟩
  · rcases hget j e he with ⟨rfl, rfl⟩ | ⟨hj, he'⟩
    · rw [hp] at hq
      cases hq
      exact hok
    · exact r.ok j e q he' hq
  · rcases hget j e he with ⟨rfl, rfl⟩ | ⟨hj, he'⟩
    · rw [hp] at hq
      cases hq
      exact hdat
    · exact Ent.dat_mono (r.dat j e q he' hq) (r.datStep (Nat.le_refl _) (fun j b hf => Or.inl ⟨j, hfp j b hf⟩) fun _ _ _ _ => rfl) fun _ _ => rfl
theorem sortCt : CtOk Try.prog 75 appSort := by
  have hsp : ∀ args h r, appSort args h = some r → ∃ k n get, args = [.c (.row k)] ∧ h[k]? = some (.row 3 1 n get) ∧ r = ⟨sortPre n get, .tup [], h.set k (.row 3 1 n (inG (srt (iL n get)))), [k]⟩ := fun args h r hr => by
    unfold appSort at hr
    split at hr
    · rename_i k
      split at hr
      · rename_i e sz n get hk
        split at hr
        · rename_i hb
          rw [Bool.and_eq_true] at hb
          obtain rfl := Nat.eq_of_beq_eq_true hb.1
          obtain rfl := Nat.eq_of_beq_eq_true hb.2
          exact ⟨k, n, get, rfl, hk, (Option.some.inj hr).symm⟩
        · cases hr
      · cases hr
    · cases hr
  refine ⟨callable_spec (by kernel_rfl), fun args h r hr => ?_, fun args h r hr hpre w0 G ρ W us rel hus => ?_⟩
  · obtain ⟨k, n, get, rfl, hk, rfl⟩ := hsp args h r hr
    refine ⟨by simp, fun j hj hn => ?_⟩
    rw [List.getElem?_set_ne (fun e => hn (by simp [e]))]
  · obtain ⟨k, n, get, rfl, hk, rfl⟩ := hsp args h r hr
    obtain ⟨hin, hn⟩ : sortPre n get := hpre
    obtain ⟨v, us', rfl, hv, hus'⟩ := hus
    cases hus'
    obtain ⟨p, hp, hok⟩ := rel.place hk
    obtain ⟨vs, ⟨g1, g2, g3⟩, g4⟩ := hok
    obtain ⟨q, hq, hvq⟩ := den_row hv
    rw [hp] at hq
    obtain rfl := Option.some.inj hq
    subst hvq
    have hvs := ints_of hin (by have := g4.1; omega) g1
    have hzl : (iL n get).length = n := iL_len
    have hsl : (srt (iL n get)).length = n := by rw [srt_len, hzl]
    have hkp : ∀ W', W'.ownsRow 0 3 1 p.v n ((srt (iL n get)).map (Value.int .i64)) → Ent.ok ρ p W' (.row 3 1 n (inG (srt (iL n get)))) := fun W' ho =>
      ⟨_, ⟨fun i hi => row_ints _ i (by omega), g2, g3⟩, ho⟩
    rcases g4.2 with ⟨hpv, hn0⟩ | ⟨g, cap, cur, hpv, _, hh, hc1, hc2, hc3, hc4⟩
    · rw [hpv]
      refine Calls.mono (Try.slices_Sort_int_none none 0 W) fun e W' he => ?_
      obtain ⟨rfl, rfl⟩ := he
      refine ⟨_, [], rfl, ⟨[], rfl, rfl⟩, ?_⟩
      rw [List.append_nil]
      refine rel.setE hk hp rfl rfl (hkp _ ?_)
      rw [hpv]
      subst hn0
      refine ⟨by simp [hsl], Or.inl ⟨rfl, rfl⟩⟩
    · rw [hpv]
      have hgl : g < W.heap.size := (Array.getElem?_eq_some_iff.1 hh).1
      have hH := holds_of_blockI (ss := iL n get) hh (by rw [hzl, ← Nat.mul_one n, hc4, hvs]; simp)
      have hcall := Try.slices_Sort_int g 0 cap (iL n get) W hH hgl (by omega)
      rw [hzl] at hcall
      refine Calls.mono hcall fun e W' he => ?_
      obtain ⟨rfl, m, os, rfl⟩ := he
      refine ⟨_, [], rfl, ⟨[], rfl, rfl⟩, ?_⟩
      rw [List.append_nil]
      have hr1 : Rel w0 G ρ (h.set k (.row 3 1 n (inG (srt (iL n get))))) (Sort.putRow (Value.int .i64) (Sort.ahead W m) g 0 (srt (iL n get)).toArray) := by
        refine rel.turn (b0 := g) hk hp (by simp [Ent.fp, hpv, Value.ownBlock]) (by simp [Ent.fp, hpv, Value.ownBlock]) rfl (hkp _ ?_) (fun b hb => ?_) (by simp [Sort.ahead]) rfl rfl rfl
        · rw [hpv]
          have := ownsRow_sortedI (w := W) (base := 0) (g := g) (cap := cap) (n := m) (os := #[]) (ss := iL n get) (ts := srt (iL n get)) (srt_len _) (Nat.zero_le _) hh (by omega) hc2 hc3
          rw [Sort.grow_empty, hzl] at this
          exact this
        · have : g ≠ b := fun e => hb e.symm
          simp [Sort.putRow, Sort.mapBlock, Sort.ahead, Array.getElem?_modify, this]
      refine hr1.belowStep ⟨rfl, rfl, rfl, by simp, fun j hj => ?_⟩
      exact Sort.heap_grow_old _ _ hj
def sCloneI : SpecF
  | [.c (.row 0)], [.elems ty one n get] => some (inPre ty one n get, .c (.row 1), [.dead, .row 3 1 n (inG (iL n get))])
  | _, _ => none
theorem cloneIP : Fn Try.prog 74 [] [(3, 1)] sCloneI := by
  refine Fn.plain (by kernel_rfl) (fun args h pre res h' hs => ?_) fun args h pre res h' hs hp ρ W us rel hus => ?_
  · unfold sCloneI at hs
    split at hs
    · cases hs; exact ⟨rfl, Nat.le_of_ble_eq_true rfl⟩
    · cases hs
  · unfold sCloneI at hs
    split at hs
    rotate_left
    · cases hs
    rename_i ty one n get
    cases hs
    obtain ⟨rfl, rfl, hin, hn⟩ := hp
    obtain ⟨v, us', rfl, hv, hus'⟩ := hus
    cases hus'
    obtain ⟨p, hpl, hok⟩ := rel.place (k := 0) rfl
    obtain ⟨q, hq, hvq⟩ := den_row hv
    rw [hpl] at hq
    obtain rfl := Option.some.inj hq
    subst hvq
    obtain ⟨⟨a, cap, hpv, hcap, ha⟩, hcells⟩ := hok
    have hzl : (iL n get).length = n := iL_len
    have hcell : ∀ j, j < n → W.cell? ⟨p.b, p.o + j, none⟩ = some (.int .i64 ((iL n get).getD j 0)) := fun j hj => by
      obtain ⟨vs, h1, h2⟩ := hcells j hj
      rw [hin.eq hj] at h1
      obtain rfl : [Value.int .i64 (iA (iL n get) j)] = vs := (show IsL [] (inG (iL n get) j) [.int .i64 (iA (iL n get) j)] from rfl).unique h1
      have := h2 0 _ rfl
      rw [Nat.mul_one, Nat.add_zero] at this
      exact this
    have fin : ∀ (v' : Value) (W' : World), W'.ownsRow W.heap.size 3 1 v' n ((iL n get).map (Value.int .i64)) → Below W.heap.size W W' → ∃ ρ', (SV.c (.row 1)).is (ρ ++ ρ') v' ∧ Rel W (Fps ρ [.elems 3 1 n get]) (ρ ++ ρ') [.dead, .row 3 1 n (inG (iL n get))] W' := fun v' W' ho hb => by
      have hone : one v' = true := by rcases ho.2 with ⟨rfl, _⟩ | ⟨g, c, cur, rfl, _⟩ <;> rfl
      have hlen := rel.len
      simp only [List.length_cons, List.length_nil] at hlen
      have hr := rel.bornE (W' := W') (en := .row 3 1 n (inG (iL n get))) (q0 := plB v') ⟨_, ⟨fun i hi => row_ints _ i (by omega), rfl, plB_own⟩, ownsRow_base0 ho⟩ rfl (fun b hb2 => ?_)
        ⟨hb.os, hb.tape, hb.output, hb.size, fun j hj _ => hb.block j hj⟩ (fun b hb2 => ?_)
      · refine ⟨[plB v'], ?_, hr.forget (fun j e he => ?_) rfl⟩
        · show CV.den _ (.row 1) = some v'
          simp only [CV.den]
          rw [List.getElem?_append_right (by omega), show 1 - ρ.length = 0 by omega]
          simp [plB, hone]
        · cases j with
          | zero => left; exact (Option.some.inj he).symm
          | succ j => right; exact he
      · rcases ho.2 with ⟨rfl, _⟩ | ⟨g, c, cur, rfl, h1, h2, _⟩
        · simp [Ent.fp, plB, Value.ownBlock] at hb2
        · simp [Ent.fp, plB, Value.ownBlock] at hb2
          subst hb2
          exact (Array.getElem?_eq_some_iff.1 h2).1
      · rcases ho.2 with ⟨rfl, _⟩ | ⟨g, c, cur, rfl, h1, h2, _⟩
        · simp [Ent.fp, plB, Value.ownBlock] at hb2
        · simp [Ent.fp, plB, Value.ownBlock] at hb2
          subst hb2
          exact h1
    rw [hpv]
    cases a with
    | none =>
      obtain rfl : n = 0 := by
        rcases Nat.eq_zero_or_pos n with h0 | h0
        · exact h0
        · have := ha h0; cases this
      refine Calls.mono (Try.slices_Clone_int_nil 0 cap W) fun e W' he => ?_
      obtain ⟨rfl, rfl⟩ := he
      obtain ⟨ρ', f1, f2⟩ := fin (.slice none 0 0) W' ⟨rfl, Or.inl ⟨rfl, rfl⟩⟩ (Below.refl _ _)
      exact ⟨_, ρ', rfl, f1, f2⟩
    | some ad =>
      rcases Nat.eq_zero_or_pos n with h0 | h0
      · subst h0
        refine Calls.mono (Try.slices_Clone_int_zero ad cap W) fun e W' he => ?_
        obtain ⟨v', rfl, ho, _, hb⟩ := he
        obtain ⟨ρ', f1, f2⟩ := fin v' W' ho hb
        exact ⟨_, ρ', rfl, f1, f2⟩
      · obtain rfl := Option.some.inj (ha h0)
        refine Calls.mono (Try.slices_Clone_int p.b p.o n cap (iL n get) W (by omega) (by omega) (fun j hj => hcell j (by omega))) fun e W' he => ?_
        obtain ⟨v', rfl, ho, _, hb⟩ := he
        rw [List.take_of_length_le (by omega)] at ho
        obtain ⟨ρ', f1, f2⟩ := fin v' W' ho hb
        exact ⟨_, ρ', rfl, f1, f2⟩
end Go.Proofs.Ytcgoaicifjndpaa.Vx
end
