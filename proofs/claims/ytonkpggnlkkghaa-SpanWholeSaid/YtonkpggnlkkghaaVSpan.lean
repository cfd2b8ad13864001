/- Ranges of numbers: Good, Count, by the walker. -/
import Derived.Test.YtonkpggnlkkghaaVxFrame
import Derived.Test.YtonkpggnlkkghaaVxFlat
import Derived.Test.YtonkpggnlkkghaaVxLive
import Derived.Test.YtonkpggnlkkghaaSpan
import Derived.Test.YtonkpggnlkkghaaRows
namespace Go.Proofs.Ytonkpggnlkkghaa.Vx
open Go.RowKit Span
set_option linter.unusedVariables false
set_option linter.unusedSimpArgs false
def rA (l : List Rg) (i : Nat) : Int := (l.getD i (0, 0)).1
def rB (l : List Rg) (i : Nat) : Int := (l.getD i (0, 0)).2
/-- Ranges, as cells. -/
def rgG (l : List Rg) (i : Nat) : List CV := [.int .i64 (rA l i), .int .i64 (rB l i)]
def rgOf : List CV → Rg
  | [.int .i64 a, .int .i64 b] => (a, b)
  | _ => (0, 0)
def rgL (n : Nat) (get : Nat → List CV) : List Rg := (List.range n).map fun i => rgOf (get i)
def RgAt (n : Nat) (get : Nat → List CV) : Prop := ∀ i, i < n → ∃ a b, get i = [.int .i64 a, .int .i64 b]
theorem rgL_len {n : Nat} {get : Nat → List CV} : (rgL n get).length = n := by simp [rgL]
theorem rgL_get {n : Nat} {get : Nat → List CV} {i : Nat} (h : i < n) : (rgL n get).getD i (0, 0) = rgOf (get i) := by simp [rgL, List.getD, List.getElem?_map, List.getElem?_range h]
theorem RgAt.eq {n : Nat} {get : Nat → List CV} (h : RgAt n get) {i : Nat} (hi : i < n) : get i = rgG (rgL n get) i := by
  obtain ⟨a, b, e⟩ := h i hi
  unfold rgG rA rB
  rw [rgL_get hi, e]
  rfl
theorem RgAt.same {n : Nat} {get : Nat → List CV} {ty : Nat} (h : RgAt n get) : hSame [.elems ty 2 n get] [.elems ty 2 n (rgG (rgL n get))] := ⟨⟨rfl, rfl, rfl, fun i hi => h.eq hi⟩, trivial⟩
theorem rgAt_rgG (n : Nat) (l : List Rg) : RgAt n (rgG l) := fun i _ => ⟨_, _, rfl⟩
theorem rgL_rgG (l : List Rg) : rgL l.length (rgG l) = l := by
  apply List.ext_getElem?
  intro i
  by_cases hi : i < l.length
  · simp [rgL, rgG, rgOf, rA, rB, List.getElem?_range hi, List.getD, hi]
  · rw [List.getElem?_eq_none (by simp [rgL]; omega), List.getElem?_eq_none (by omega)]
theorem rgG_push (l : List Rg) (r : Rg) (i : Nat) (h : i < l.length + 1) : pushG l.length (rgG l) [.int .i64 r.1, .int .i64 r.2] i = rgG (l ++ [r]) i := by
  unfold pushG rgG rA rB
  by_cases hi : i < l.length
  · rw [show Nat.blt i l.length = true by simpa [Nat.blt_eq] using hi]
    simp [List.getD, List.getElem?_append_left hi]
  · rw [show Nat.blt i l.length = false by rw [Bool.eq_false_iff]; intro h2; exact hi (by simpa [Nat.blt_eq] using h2)]
    obtain rfl : i = l.length := by omega
    simp [List.getD]
/-- Numbers, as cells. -/
def iA (l : List Int) (i : Nat) : Int := l.getD i 0
def inG (l : List Int) (i : Nat) : List CV := [.int .i64 (iA l i)]
def iOf : List CV → Int
  | [.int .i64 a] => a
  | _ => 0
def iL (n : Nat) (get : Nat → List CV) : List Int := (List.range n).map fun i => iOf (get i)
def InAt (n : Nat) (get : Nat → List CV) : Prop := ∀ i, i < n → ∃ a, get i = [.int .i64 a]
theorem iL_len {n : Nat} {get : Nat → List CV} : (iL n get).length = n := by simp [iL]
theorem InAt.eq {n : Nat} {get : Nat → List CV} (h : InAt n get) {i : Nat} (hi : i < n) : get i = inG (iL n get) i := by
  obtain ⟨a, e⟩ := h i hi
  unfold inG iA
  rw [show (iL n get).getD i 0 = iOf (get i) by simp [iL, List.getD, List.getElem?_map, List.getElem?_range hi], e]
  rfl
theorem InAt.same {n : Nat} {get : Nat → List CV} {ty : Nat} (h : InAt n get) : hSame [.elems ty 1 n get] [.elems ty 1 n (inG (iL n get))] := ⟨⟨rfl, rfl, rfl, fun i hi => h.eq hi⟩, trivial⟩
theorem inAt_inG (n : Nat) (l : List Int) : InAt n (inG l) := fun i _ => ⟨_, rfl⟩
theorem iL_inG (l : List Int) : iL l.length (inG l) = l := by
  apply List.ext_getElem?
  intro i
  by_cases hi : i < l.length
  · simp [iL, inG, iOf, iA, List.getElem?_range hi, List.getD, hi]
  · rw [List.getElem?_eq_none (by simp [iL]; omega), List.getElem?_eq_none (by omega)]
theorem inG_push (l : List Int) (a : Int) (i : Nat) (h : i < l.length + 1) : pushG l.length (inG l) [.int .i64 a] i = inG (l ++ [a]) i := by
  unfold pushG inG iA
  by_cases hi : i < l.length
  · rw [show Nat.blt i l.length = true by simpa [Nat.blt_eq] using hi]
    simp [List.getD, List.getElem?_append_left hi]
  · rw [show Nat.blt i l.length = false by rw [Bool.eq_false_iff]; intro h2; exact hi (by simpa [Nat.blt_eq] using h2)]
    obtain rfl : i = l.length := by omega
    simp [List.getD]
def srt (l : List Int) : List Int := l.mergeSort fun x y => decide (x ≤ y)
/-- What ranges lack from a place on: the ranges found, and where one stands behind. -/
def lkGo : List Rg → Int → Int → List Rg × Int
  | [], a, _ => ([], a)
  | r :: l, a, b => ((if a < r.1 ∧ a ≤ b then [(a, min (r.1 - 1) b)] else []) ++ (lkGo l (max a (r.2 + 1)) b).1, (lkGo l (max a (r.2 + 1)) b).2)
def lkEnd (a b : Int) : List Rg := if a ≤ b then [(a, b)] else []
def lacksL (l : List Rg) (a b : Int) : List Rg := if good l then (lkGo l (max a 0) (min b 72057594037927935)).1 ++ lkEnd (lkGo l (max a 0) (min b 72057594037927935)).2 (min b 72057594037927935) else []
def rgPre (ty one n : Nat) (get : Nat → List CV) : Prop := ty = 62 ∧ one = 2 ∧ RgAt n get ∧ n ≤ 1000000
def inPre (ty one n : Nat) (get : Nat → List CV) : Prop := ty = 3 ∧ one = 1 ∧ InAt n get ∧ n ≤ 1000000
def tbG : Tbl where
  T :=
    (3, ⟨1, false, [.int .i64 (0)], .int .i64, 8⟩) ::
    (4, ⟨1, false, [.ff], .bool, 1⟩) ::
    (22, ⟨1, false, [.val (.slice none 0 0)], .slice 3, 24⟩) ::
    (62, ⟨2, true, [.int .i64 (0), .int .i64 (0)], .struct [(0, (1, false)), (1, (1, false))], 16⟩) ::
    (24, ⟨1, false, [.val (.slice none 0 0)], .slice 62, 24⟩) ::
    (9, ⟨1, false, [.str []], .str, 16⟩) ::
    []
  F :=
    (62, [0, 0]) ::
    []

theorem tbG_ok : tbG.Ok Try.prog where
  T :=
    TblOk.cons (by kernel_rfl) <|
    TblOk.cons (by kernel_rfl) <|
    TblOk.cons (by kernel_rfl) <|
    TblOk.cons (by kernel_rfl) <|
    TblOk.cons (by kernel_rfl) <|
    TblOk.cons (by kernel_rfl) <|
    TblOk.nil _
  F :=
    FlatsOk.cons (FlatOk.of (D := .struct (Try.prog.fieldsOf 62)) 6 (by decide) (by kernel_rfl) (by kernel_rfl) rfl (by kernel_rfl)) <|
    FlatsOk.nil _

attribute [local cbv_opaque] rA rB rgL rgOf good okAt mayN ofL Span.step runs count lacksL iL srt iA
def sMayN : List SV → Option (Prop × SV)
  | [.c (.int .i64 n)] => some (True, .c (.bool (mayN n)))
  | _ => none

set_option maxRecDepth 100000 in
set_option maxHeartbeats 2000000 in
theorem mayNP : Pure Try.prog 36 sMayN := by
  have hC : CtsOk Try.prog [] := CtsOk.nil _
  refine Pure.of (E := tbG) (C := []) [] 0 [] tbG_ok hC (by kernel_rfl) Try.func36 rfl rfl rfl (by kernel_rfl) (by kernel_rfl) ?_ ?_
  · intro args pre r h
    unfold sMayN at h
    split at h
    · cases h; rfl
    · cases h
  · intro args pre r h hp
    unfold sMayN at h
    split at h
    rotate_left
    · cases h
    rename_i n
    cases h
    generalize hA : Arith.std = A
    cbv
    subst hA
    refine Ife.mk (fun h => ?_) (fun h => ?_)
    · have h : 0 ≤ n := of_decide_eq_true (p := 0 ≤ n) h
      show decide (n ≤ 72057594037927935) = mayN n
      unfold mayN
      simp [h]
    · have h : ¬ 0 ≤ n := of_decide_eq_false (p := 0 ≤ n) h
      unfold mayN
      simp [h]

structure LGd (L : List Rg) (n : Nat) where
  i : Int
  h0 : 0 ≤ i
  h1 : i ≤ (n : Int)
  h2 : ∀ k, k < i.toNat → okAt L k = true
theorem okAt_no1 {L : List Rg} {i : Nat} (h : mayN (rA L i) = false) : okAt L i = false := by
  have h : mayN (L.getD i (0, 0)).1 = false := h
  unfold okAt; rw [h]; rfl
theorem okAt_no2 {L : List Rg} {i : Nat} (h : mayN (rB L i) = false) : okAt L i = false := by
  have h : mayN (L.getD i (0, 0)).2 = false := h
  unfold okAt; rw [h]; simp
theorem okAt_no3 {L : List Rg} {i : Nat} (h : rB L i < rA L i) : okAt L i = false := by
  rw [Bool.eq_false_iff]
  intro h2
  have := (okAt_iff.1 h2).1
  unfold rA rB at h
  omega
theorem okAt_no4 {L : List Rg} {i : Nat} (h0 : i ≠ 0) (h : rA L i - rB L (i - 1) < 2) : okAt L i = false := by
  rw [Bool.eq_false_iff]
  intro h2
  have := (okAt_iff.1 h2).2
  unfold rA rB at h
  omega
theorem okAt_yes {L : List Rg} {i : Nat} (h1 : mayN (rA L i) = true) (h2 : mayN (rB L i) = true) (h3 : ¬ rB L i < rA L i) (h4 : i = 0 ∨ ¬ rA L i - rB L (i - 1) < 2) : okAt L i = true := by
  have a1 := mayN_iff.1 h1
  have a2 := mayN_iff.1 h2
  refine okAt_iff.2 ⟨?_, ?_⟩ <;> unfold rA rB at * <;> omega
theorem okAt_b {L : List Rg} {i : Nat} (h : okAt L i = true) : 0 ≤ rA L i ∧ rA L i ≤ rB L i ∧ rB L i ≤ 72057594037927935 := (okAt_iff.1 h).1
def sGood : SpecF
  | [.c (.row 0)], [.elems ty one n get] => some (rgPre ty one n get, .c (.bool (good (rgL n get))), [.dead])
  | _, _ => none

set_option maxRecDepth 100000 in
set_option maxHeartbeats 4000000 in
theorem goodP : Fn Try.prog 12 [] [(62, 2)] sGood := by
  have hC : CtsOk Try.prog [(36, appPure sMayN)] := CtsOk.cons (Pure.ct mayNP) <| CtsOk.nil _
  refine Fn.of (E := tbG) [] 0 [(4, [(0, true), (1, true), (2, false), (3, true), (4, true), (5, true), (6, true), (7, false), (8, true), (9, true), (10, true), (11, true), (12, true), (13, true), (14, true), (15, true), (16, true), (17, true), (18, true), (19, true), (20, true), (21, true), (22, true), (23, true), (24, true), (25, true), (26, true), (27, true), (28, true), (29, true), (30, true), (31, true), (32, true)])] tbG_ok hC (by kernel_rfl) Try.func12 rfl rfl rfl (by kernel_rfl) (by kernel_rfl) 1 5 1 ?_ ?_
  · intro args h pre r h' hs
    unfold sGood at hs
    split at hs
    · cases hs; exact ⟨rfl, rfl, Nat.le_of_ble_eq_true rfl⟩
    · cases hs
  · intro args h pre r h' hs hp
    unfold sGood at hs
    split at hs
    rotate_left
    · cases hs
    rename_i ty one n get
    cases hs
    obtain ⟨rfl, rfl, hst, hm⟩ := hp
    refine ⟨[.elems 62 2 n (rgG (rgL n get))], hst.same, ?_⟩
    have hL : (rgL n get).length = n := rgL_len
    generalize rgL n get = L at hL ⊢
    unfold sMayN
    generalize hL : lft Try.prog _ = L
    generalize hA : Arith.std = A
    cbv
    subst hA hL
    show Runs Try.prog 1 (.loop _) _ _
    refine loop_ruleR (N := env (lft Try.prog 1) 0 .std tbG [(36, appPure sMayN)] [(4, [(0, true), (1, true), (2, false), (3, true), (4, true), (5, true), (6, true), (7, false), (8, true), (9, true), (10, true), (11, true), (12, true), (13, true), (14, true), (15, true), (16, true), (17, true), (18, true), (19, true), (20, true), (21, true), (22, true), (23, true), (24, true), (25, true), (26, true), (27, true), (28, true), (29, true), (30, true), (31, true), (32, true)])]) rfl tbG_ok hC (fun c st K _ h => h) (by kernel_rfl) [] (X := LGd L n)
      (S := fun x => ⟨[.c (.row 0), .any, .any, .any, .any, .c (.row 0), .c (.int .i64 n), .c (.int .i64 x.i)] ++ List.replicate 38 .any, [.elems 62 2 n (rgG L)]⟩) (μ := fun x => n - x.i.toNat) ⟨0, by omega, by omega, fun k hk => absurd hk (by show ¬ k < (0 : Int).toNat; omega)⟩ (by kernel_rfl) [0] ?_ ?_
    · refine ⟨rfl, by decide, ?_, ?_⟩ <;> repeat' (first | exact trivial | exact rfl | apply And.intro)
    rintro ⟨i, hi0, hin, hall⟩
    unfold sMayN
    generalize hL : lft Try.prog _ = L
    generalize hA : Arith.std = A
    cbv
    subst hA hL
    replace hi0 : 0 ≤ i := hi0
    replace hin : i ≤ @Nat.cast Int instNatCastInt n := hin
    replace hall : ∀ k, k < i.toNat → okAt L k = true := hall
    refine Ife.mk (fun hlt => ?_) (fun hlt => ?_)
    · replace hlt : i < @Nat.cast Int instNatCastInt n := of_decide_eq_true (p := i < (n : Int)) hlt
      refine Need.mk (by show 0 ≤ i ∧ i < (n : Int); omega) fun _ => Need.mk (by show i.toNat < n; omega) fun _ => Need.mk trivial fun _ => ?_
      have no : okAt L i.toNat = false → good L = false := good_at (by omega)
      refine Ife.mk (fun h => ?_) (fun h => ?_)
      · have h : mayN (rA L i.toNat) = false := by
          have h6 : (!mayN (rA L i.toNat)) = true := h
          simpa using h6
        rw [no (okAt_no1 h)]
        exact ⟨[0], ⟨rfl, rfl, by decide, rfl, by repeat' (first | exact trivial | exact rfl | apply And.intro)⟩⟩
      have h1 : mayN (rA L i.toNat) = true := by
        have h6 : (!mayN (rA L i.toNat)) = false := h
        simpa using h6
      refine Need.mk trivial fun _ => ?_
      refine Ife.mk (fun h => ?_) (fun h => ?_)
      · have h : mayN (rB L i.toNat) = false := by
          have h6 : (!mayN (rB L i.toNat)) = true := h
          simpa using h6
        rw [no (okAt_no2 h)]
        exact ⟨[0], ⟨rfl, rfl, by decide, rfl, by repeat' (first | exact trivial | exact rfl | apply And.intro)⟩⟩
      have h2 : mayN (rB L i.toNat) = true := by
        have h6 : (!mayN (rB L i.toNat)) = false := h
        simpa using h6
      refine Ife.mk (fun h => ?_) (fun h => ?_)
      · have h : rB L i.toNat < rA L i.toNat := of_decide_eq_true (p := rB L i.toNat < rA L i.toNat) h
        rw [no (okAt_no3 h)]
        exact ⟨[0], ⟨rfl, rfl, by decide, rfl, by repeat' (first | exact trivial | exact rfl | apply And.intro)⟩⟩
      have h3 : ¬ rB L i.toNat < rA L i.toNat := of_decide_eq_false (p := rB L i.toNat < rA L i.toNat) h
      have b1 := mayN_iff.1 h1
      refine Ife.mk (fun h => ?_) (fun h => ?_)
      · have h : 0 < i := of_decide_eq_true (p := 0 < i) h
        have e : (i - 1).toNat = i.toNat - 1 := by omega
        have b2 := okAt_b (hall (i - 1).toNat (by omega))
        refine Need.mk (by show fitStd .i64 (i - 1); unfold fitStd; omega) fun _ => Need.mk (by show 0 ≤ i - 1 ∧ i - 1 < (n : Int); omega) fun _ => Need.mk (by show (i - 1).toNat < n; omega) fun _ => Need.mk (by show fitStd .i64 (rA L i.toNat - rB L (i - 1).toNat); unfold fitStd; omega) fun _ => ?_
        refine Ife.mk (fun h => ?_) (fun h => ?_)
        · have h : rA L i.toNat - rB L (i - 1).toNat < 2 := of_decide_eq_true (p := rA L i.toNat - rB L (i - 1).toNat < 2) h
          rw [e] at h
          rw [no (okAt_no4 (by omega) h)]
          exact ⟨[0], ⟨rfl, rfl, by decide, rfl, by repeat' (first | exact trivial | exact rfl | apply And.intro)⟩⟩
        have h4 : ¬ rA L i.toNat - rB L (i - 1).toNat < 2 := of_decide_eq_false (p := rA L i.toNat - rB L (i - 1).toNat < 2) h
        rw [e] at h4
        have hok := okAt_yes h1 h2 h3 (Or.inr h4)
        refine Need.mk (by show fitStd .i64 (i + 1); unfold fitStd; omega) fun _ => ?_
        refine ⟨⟨i + 1, by omega, by omega, ?h2⟩, [0], (by show n - (i + 1).toNat < n - i.toNat; omega), ?st⟩
        case st => refine ⟨rfl, by decide, ?_, ?_⟩ <;> repeat' (first | exact trivial | exact rfl | apply And.intro)
        case h2 =>
          intro k hk
          by_cases hk2 : k = i.toNat
          · rw [hk2]; exact hok
          · exact hall k (by omega)
      · have h : ¬ 0 < i := of_decide_eq_false (p := 0 < i) h
        have hok := okAt_yes h1 h2 h3 (Or.inl (by omega))
        refine Need.mk (by show fitStd .i64 (i + 1); unfold fitStd; omega) fun _ => ?_
        refine ⟨⟨i + 1, by omega, by omega, ?h2⟩, [0], (by show n - (i + 1).toNat < n - i.toNat; omega), ?st⟩
        case st => refine ⟨rfl, by decide, ?_, ?_⟩ <;> repeat' (first | exact trivial | exact rfl | apply And.intro)
        case h2 =>
          intro k hk
          by_cases hk2 : k = i.toNat
          · rw [hk2]; exact hok
          · exact hall k (by omega)
    · replace hlt : ¬ i < @Nat.cast Int instNatCastInt n := of_decide_eq_false (p := i < (n : Int)) hlt
      rw [show good L = true from good_iff.2 fun k hk => hall k (by omega)]
      exact ⟨[0], ⟨rfl, rfl, by decide, rfl, by repeat' (first | exact trivial | exact rfl | apply And.intro)⟩⟩

end Go.Proofs.Ytonkpggnlkkghaa.Vx
