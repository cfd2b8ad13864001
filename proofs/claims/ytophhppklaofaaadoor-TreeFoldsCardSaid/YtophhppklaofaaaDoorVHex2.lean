/- Texts in digits; sums in order, by the walker. -/
import Derived.Test.YtophhppklaofaaaDoorVHex
namespace Go.Proofs.YtophhppklaofaaaDoor.Vx
open Go.RowKit Sha
set_option linter.unusedVariables false
set_option linter.unusedSimpArgs false
def digPre (n : Int) : Prop := 0 ≤ n ∧ n < 16
def digI (n : Int) : Int := ((dig n.toNat).toNat : Int)
theorem dig_code (n : Int) (h0 : 0 ≤ n) (h1 : n < 16) : (n < 10 → IntKind.wrap .u8 (48 + n) = digI n) ∧ (¬ n < 10 → IntKind.wrap .u8 (97 + n - 10) = digI n) := by
  have key : ∀ j : Fin 16, ((j.1 : Int) < 10 → IntKind.wrap .u8 (48 + (j.1 : Int)) = digI (j.1 : Int)) ∧ (¬ (j.1 : Int) < 10 → IntKind.wrap .u8 (97 + (j.1 : Int) - 10) = digI (j.1 : Int)) := by decide +kernel
  have := key ⟨n.toNat, by omega⟩
  simp only at this
  rw [show ((n.toNat : Nat) : Int) = n by omega] at this
  exact this
theorem dig_div (b : UInt8) : (0 ≤ IntKind.wrap .i64 ((IntKind.wrap .i64 (b.toNat : Int)).tdiv 16) ∧ IntKind.wrap .i64 ((IntKind.wrap .i64 (b.toNat : Int)).tdiv 16) < 16) ∧ (0 ≤ (IntKind.wrap .i64 (b.toNat : Int)).tmod 16 ∧ (IntKind.wrap .i64 (b.toNat : Int)).tmod 16 < 16) ∧
    [UInt8.ofNat (digI (IntKind.wrap .i64 ((IntKind.wrap .i64 (b.toNat : Int)).tdiv 16))).toNat, UInt8.ofNat (digI ((IntKind.wrap .i64 (b.toNat : Int)).tmod 16)).toNat] = hexB b := by
  have key : ∀ j : Fin 256, (0 ≤ IntKind.wrap .i64 ((IntKind.wrap .i64 (j.1 : Int)).tdiv 16) ∧ IntKind.wrap .i64 ((IntKind.wrap .i64 (j.1 : Int)).tdiv 16) < 16) ∧ (0 ≤ (IntKind.wrap .i64 (j.1 : Int)).tmod 16 ∧ (IntKind.wrap .i64 (j.1 : Int)).tmod 16 < 16) ∧
    [UInt8.ofNat (digI (IntKind.wrap .i64 ((IntKind.wrap .i64 (j.1 : Int)).tdiv 16))).toNat, UInt8.ofNat (digI ((IntKind.wrap .i64 (j.1 : Int)).tmod 16)).toNat] = hexB (UInt8.ofNat j.1) := by decide +kernel
  have := key ⟨b.toNat, b.toNat_lt⟩
  simp only at this
  rw [show UInt8.ofNat b.toNat = b by simp] at this
  exact this
structure LRHex (s : List UInt8) where
  i : Int
  l : List UInt8
  h0 : 0 ≤ i
  h1 : i ≤ (s.length : Int)
  h2 : l = hexL (s.take i.toNat)
def rhexPre (s : List UInt8) : Prop := s.length ≤ 1000000
def sDigit : List SV → Option (Prop × SV)
  | [.c (.int .i64 n)] => some (digPre n, .c (.int .u8 (digI n)))
  | _ => none

set_option maxRecDepth 100000 in
set_option maxHeartbeats 400000 in
theorem digitP : Pure Tryd.prog 77 sDigit := by
  refine Pure.of (E := tbC) (C := []) [] 0 [] tbC_ok (CtsOk.nil _) (by kernel_rfl) Tryd.func77 rfl rfl rfl (by kernel_rfl) (by kernel_rfl) ?_ ?_
  · intro args pre r h
    unfold sDigit at h
    split at h
    · cases h; first | rfl | exact ⟨rfl, rfl⟩
    · cases h
  · intro args pre r h hp
    unfold sDigit at h
    split at h
    rotate_left
    · cases h
    rename_i n
    cases h
    generalize hg0 : digI = g0
    generalize hg1 : digPre = g1
    generalize hA : Arith.std = A
    cbv
    subst hA hg0 hg1
    obtain ⟨h0, h1⟩ := hp
    obtain ⟨d1, d2⟩ := dig_code n h0 h1
    refine Ife.mk (fun h => ?_) (fun h => ?_)
    · refine Need.mk (by show fitStd .i64 (48 + n); unfold fitStd; omega) fun _ => ?_
      exact d1 (of_decide_eq_true (p := n < 10) h)
    · refine Need.mk (by show fitStd .i64 (97 + n); unfold fitStd; omega) fun _ => Need.mk (by show fitStd .i64 (97 + n - 10); unfold fitStd; omega) fun _ => ?_
      exact d2 (of_decide_eq_false (p := n < 10) h)

def sRHex : List SV → Option (Prop × SV)
  | [.c (.str s)] => some (rhexPre s, .c (.str (hexL s)))
  | _ => none

set_option maxRecDepth 100000 in
set_option maxHeartbeats 2000000 in
theorem rhexP : Pure Tryd.prog 24 sRHex := by
  have hC : CtsOk Tryd.prog [(77, appPure sDigit)] := CtsOk.cons (Pure.ct digitP) <| CtsOk.nil _
  refine Pure.of (E := tbC) (C := [(77, appPure sDigit)]) [] 0 [(5, [(2000, false), (0, true), (1, true), (2, true), (3, true), (4, true), (5, true), (7, true), (8, true), (9, true), (10, true), (11, true), (6, false), (12, false), (13, false), (14, false), (15, true)])] tbC_ok hC (by kernel_rfl) Tryd.func24 rfl rfl rfl (by kernel_rfl) (by kernel_rfl) ?_ ?_
  · intro args pre r h
    unfold sRHex at h
    split at h
    · cases h; rfl
    · cases h
  · intro args pre r h hp
    unfold sRHex at h
    split at h
    rotate_left
    · cases h
    rename_i s
    cases h
    have hs : s.length ≤ 1000000 := hp
    unfold sDigit
    generalize hg0 : hexL = g0
    generalize hg1 : digI = g1
    generalize hg2 : digPre = g2
    generalize hg3 : rhexPre = g3
    generalize hg4 : (List.length : List UInt8 → Nat) = g4
    generalize hL : lft Tryd.prog _ = L
    generalize hA : Arith.std = A
    cbv
    subst hA hg0 hg1 hg2 hg3 hg4 hL
    refine Runs.nilTmpB 3 5 rfl ?_
    show Runs Tryd.prog 0 (.loop _) _ _
    refine loop_ruleR (N := env (lft Tryd.prog 0) 0 .std tbC [(77, appPure sDigit)] [(5, [(2000, false), (0, true), (1, true), (2, true), (3, true), (4, true), (5, true), (7, true), (8, true), (9, true), (10, true), (11, true), (6, false), (12, false), (13, false), (14, false), (15, true)])]) rfl tbC_ok hC (fun c st K _ h => h) (by kernel_rfl) [0] (X := LRHex s)
      (S := fun x => ⟨[.c (.str s), .any, .any, .c (.row 0), .c (.int .i64 x.i)] ++ List.replicate 23 .any, [.bytes 5 x.l]⟩) (μ := fun x => s.length - x.i.toNat) ⟨0, [], by omega, by omega, rfl⟩ (by kernel_rfl) [0] ?_ ?_
    · refine ⟨rfl, by decide, ?_, ?_⟩ <;> repeat' (first | exact trivial | exact rfl | apply And.intro)
    rintro ⟨i, l, hi0, hin, hl⟩
    unfold sDigit
    generalize hg0 : hexL = g0
    generalize hg1 : digI = g1
    generalize hg2 : digPre = g2
    generalize hg3 : rhexPre = g3
    generalize hg4 : (List.length : List UInt8 → Nat) = g4
    generalize hL : lft Tryd.prog _ = L
    generalize hA : Arith.std = A
    cbv
    subst hA hg0 hg1 hg2 hg3 hg4 hL
    replace hi0 : 0 ≤ i := hi0
    replace hin : i ≤ @Nat.cast Int instNatCastInt s.length := hin
    replace hl : l = hexL (s.take i.toNat) := hl
    have hll : l.length ≤ 2 * s.length := by rw [hl, hexL_len, List.length_take]; omega
    refine Ife.mk (fun hlt => ?_) (fun hlt => ?_)
    · replace hlt : i < @Nat.cast Int instNatCastInt s.length := of_decide_eq_true (p := i < (s.length : Int)) hlt
      obtain ⟨d1, d2, d3⟩ := dig_div (s.getD i.toNat 0)
      have hts : s.take (i.toNat + 1) = s.take i.toNat ++ [s.getD i.toNat 0] := by
        rw [List.take_add_one, List.getElem?_eq_getElem (show i.toNat < s.length by omega), List.getD_eq_getElem?_getD, List.getElem?_eq_getElem (show i.toNat < s.length by omega)]
        rfl
      repeat (first | refine Need.mk (by first | exact trivial | (simp only [Arith.std, fitStd]; omega) | (simp [Arith.std, fitStd]; omega)) fun _ => ?_ | exact Need.mk d1 | refine Need.mk d1 fun _ => ?_ | refine Need.mk d2 fun _ => ?_ | refine Need.mk (bytes_two _ _) fun _ => ?_)
      refine ⟨⟨i + 1, l ++ ?lv, by omega, by omega, ?h2⟩, [2], (by show s.length - (i + 1).toNat < s.length - i.toNat; omega), ?st⟩
      case st => refine ⟨rfl, by decide, ?_, ?_⟩ <;> repeat' (first | exact trivial | exact rfl | apply And.intro)
      case h2 =>
        rw [show (i + 1).toNat = i.toNat + 1 by omega, hts, hexL_snoc, ← hl, ← d3]
        rfl
    · replace hlt : ¬ i < @Nat.cast Int instNatCastInt s.length := of_decide_eq_false (p := i < (s.length : Int)) hlt
      show l = hexL s
      rw [hl, List.take_of_length_le (by omega)]

theorem run_loadBytes {P : Program} (w : World) (b : Nat) : ∀ (l : List UInt8) (acc : List UInt8) (o : Nat), (∀ (j : Nat) (h : j < l.length), w.cell? ⟨b, o + j, none⟩ = some (byteV l[j])) → (Extern.Bytes.loadBytes ⟨b, o, none⟩ l.length ⟨acc.toArray⟩).run P w = .ok ⟨(acc ++ l).toArray⟩ w
  | [], acc, o, h => by simp [Extern.Bytes.loadBytes]
  | c :: l, acc, o, h => by
    have h0 := h 0 (by simp)
    rw [Nat.add_zero] at h0
    have ih := run_loadBytes (P := P) w b l (acc ++ [c]) (o + 1) (fun j hj => by
      have := h (j + 1) (by simpa using hj)
      rw [show o + 1 + j = o + (j + 1) by omega]
      simpa using this)
    simp only [List.length_cons, Extern.Bytes.loadBytes, Sem.run_bind]
    rw [run_load, h0]
    simp only [List.getElem_cons_zero, byteV, Result.andThen_ok, addr_add]
    have e : (⟨acc.toArray⟩ : ByteArray).push ((c.toNat : Int)).toNat.toUInt8 = ⟨(acc ++ [c]).toArray⟩ := by
      apply ByteArray.ext
      simp [ByteArray.push]
    rw [e, ih]
    simp
theorem run_compareBytes {P : Program} (w : World) (b1 o1 c1 b2 o2 c2 : Nat) (l m : List UInt8) (h1 : ∀ (j : Nat) (h : j < l.length), w.cell? ⟨b1, o1 + j, none⟩ = some (byteV l[j])) (h2 : ∀ (j : Nat) (h : j < m.length), w.cell? ⟨b2, o2 + j, none⟩ = some (byteV m[j])) :
    (Extern.BytealgCompare.compare #[.slice (some ⟨b1, o1, none⟩) l.length c1, .slice (some ⟨b2, o2, none⟩) m.length c2]).run P w = .ok (.int .i64 (Lib.compareBytes l m)) w := by
  have e1 := run_loadBytes (P := P) w b1 l [] o1 h1
  have e2 := run_loadBytes (P := P) w b2 m [] o2 h2
  simp only [List.nil_append] at e1 e2
  change Sem.run P (do pure (goInt (Extern.BytealgCompare.cmp (← Extern.Bytes.bytesOf (.slice (some ⟨b1, o1, none⟩) l.length c1)) (← Extern.Bytes.bytesOf (.slice (some ⟨b2, o2, none⟩) m.length c2))))) w = _
  simp only [Extern.Bytes.bytesOf, Sem.run_bind]
  rw [show (ByteArray.empty) = (⟨([] : List UInt8).toArray⟩ : ByteArray) from rfl, e1]
  simp only [Result.andThen_ok]
  rw [e2]
  simp [Lib.cmp_eq, goInt]
def cmpPre (ty one n : Nat) (get : Nat → List CV) (ty' one' m : Nat) (get' : Nat → List CV) : Prop := one = 1 ∧ one' = 1 ∧ BytesG n get ∧ BytesG m get' ∧ 0 < n ∧ 0 < m
def sCompare : SpecF
  | [.c (.row 0), .c (.row 1)], [.elems ty one n get, .elems ty' one' m get'] => some (cmpPre ty one n get ty' one' m get', .c (.int .i64 (Lib.compareBytes (bytesG n get) (bytesG m get'))), [.dead, .dead])
  | _, _ => none

theorem bytesAt_elems {ρ : List Pl} {W : World} {p : Pl} {ty n : Nat} {get : Nat → List CV} (h : Ent.ok ρ p W (.elems ty 1 n get)) (hb : BytesG n get) (j : Nat) (hj : j < (bytesG n get).length) : W.cell? ⟨p.b, p.o + j, none⟩ = some (byteV (bytesG n get)[j]) := by
  have hj' : j < n := by rw [bytesG_len] at hj; exact hj
  obtain ⟨vs, hv, hc⟩ := h.2 j hj'
  rw [bytesG_get hb j hj'] at hv
  have hv2 : [Value.int .u8 (byteN (bytesG n get) j)] = vs := (show IsL [] [CV.int .u8 (byteN (bytesG n get) j)] [.int .u8 (byteN (bytesG n get) j)] from rfl).unique hv
  have h1 := hc 0 (.int .u8 (byteN (bytesG n get) j)) (by rw [← hv2]; rfl)
  rw [Nat.mul_one, Nat.add_zero] at h1
  rw [h1]
  unfold byteN byteV
  rw [List.getD_eq_getElem?_getD, List.getElem?_eq_getElem hj]
  rfl
set_option maxHeartbeats 1000000 in
set_option maxRecDepth 100000 in
theorem compareWalk (w : World) (b1 o1 c1 b2 o2 c2 : Nat) (l m : List UInt8) (h1 : ∀ (j : Nat) (h : j < l.length), w.cell? ⟨b1, o1 + j, none⟩ = some (byteV l[j])) (h2 : ∀ (j : Nat) (h : j < m.length), w.cell? ⟨b2, o2 + j, none⟩ = some (byteV m[j])) :
    Calls Tryd.prog 78 #[.slice (some ⟨b1, o1, none⟩) l.length c1, .slice (some ⟨b2, o2, none⟩) m.length c2] w fun e w' => e = .returned (.int .i64 (Lib.compareBytes l m)) ∧ w' = w := by
  have hr := run_compareBytes (P := Tryd.prog) w b1 o1 c1 b2 o2 c2 l m h1 h2
  clear h1 h2
  go_enter Tryd.func78, Tryd.ntmps78
  go_wp2
  rw [run_callFunc_extern Tryd.func110 (by kernel_rfl) (by kernel_rfl) (by kernel_rfl) (e := Extern.BytealgCompare.compare) (by kernel_rfl), hr]
  simp only [Result.andThen]
  rw [Oper.upon_value]
  go_wp2
  go_ret
  exact ⟨rfl, rfl⟩
theorem compareP : Fn Tryd.prog 78 [] [(5, 1), (5, 1)] sCompare := by
  refine ⟨by kernel_rfl, fun args h pre res h' hs => ?_, fun args h pre res h' hs hp ρ W us rel hus => ?_⟩
  · unfold sCompare at hs
    split at hs
    · cases hs; exact ⟨rfl, Nat.le_refl _⟩
    · cases hs
  · unfold sCompare at hs
    split at hs
    rotate_left
    · cases hs
    rename_i ty one n get ty' one' m get'
    cases hs
    obtain ⟨rfl, rfl, hb1, hb2, h01, h02⟩ := hp
    obtain ⟨u0, us1, rfl, hu0, u1, us2, rfl, hu1, rfl⟩ := hus
    obtain ⟨p, hpk, rfl⟩ := den_row hu0
    obtain ⟨q, hqk, rfl⟩ := den_row hu1
    have ok1 := rel.ok 0 _ p rfl hpk
    have ok2 := rel.ok 1 _ q rfl hqk
    obtain ⟨⟨a, cap, hpv, hcap, ha⟩, _⟩ := ok1
    obtain ⟨⟨a', cap', hqv, hcap', ha'⟩, _⟩ := ok2
    rw [hpv, hqv, ha h01, ha' h02]
    have hw := compareWalk W p.b p.o cap q.b q.o cap' (bytesG n get) (bytesG m get') (bytesAt_elems (rel.ok 0 _ p rfl hpk) hb1) (bytesAt_elems (rel.ok 1 _ q rfl hqk) hb2)
    rw [bytesG_len, bytesG_len] at hw
    refine Calls.mono hw fun e w' he => ?_
    obtain ⟨rfl, rfl⟩ := he
    refine ⟨_, [], rfl, rfl, ?_⟩
    rw [List.append_nil]
    refine (rel.belowStep (Below.refl _ _)).forget (fun k e he => ?_) rfl
    match k, he with
    | 0, he => simp at he; exact Or.inl he.symm
    | 1, he => simp at he; exact Or.inl he.symm
    | k + 2, he => simp at he
def lessPre (xs ys : List CV) : Prop := HashC xs ∧ HashC ys
def lessB (xs ys : List CV) : Bool := decide (Lib.compareBytes (u8s xs) (u8s ys) < 0)
def lessR (xs ys : List CV) : Bool := Op.bytesLess (u8s xs) (u8s ys)
theorem bytesG_hash (f : Nat → Int) (h : ∀ i, 0 ≤ f i ∧ f i < 256) : bytesG 32 (cutC 1 (hashC f) 0) = hashB f ∧ BytesG 32 (cutC 1 (hashC f) 0) := by
  have e : ∀ i, i < 32 → cutC 1 (hashC f) 0 i = [.int .u8 (f i)] := fun i hi => by
    have key : hashC f = (List.range 32).map fun i => CV.int .u8 (f i) := rfl
    rw [key]
    unfold cutC
    rw [Nat.mul_one, Nat.zero_add, List.drop_eq_getElem_cons (by simpa using hi)]
    simp
  refine ⟨?_, fun i hi => ?_⟩
  · unfold bytesG hashB
    refine List.map_congr_left fun i hi => ?_
    rw [e i (by simpa using hi)]
    rfl
  · have hr := h i
    refine ⟨UInt8.ofNat (f i).toNat, ?_⟩
    rw [e i hi]
    simp
    omega
def sLess : List SV → Option (Prop × SV)
  | [.agg xs, .agg ys] => some (lessPre xs ys, .c (.bool (lessB xs ys)))
  | _ => none

set_option maxRecDepth 100000 in
set_option maxHeartbeats 2000000 in
theorem lessP : Pure Tryd.prog 25 sLess := by
  have hC : CtsOk Tryd.prog [(78, appFn [] [(5, 1), (5, 1)] sCompare)] := CtsOk.cons (Fn.ct compareP) <| CtsOk.nil _
  refine Pure.of (E := tbC) (C := [(78, appFn [] [(5, 1), (5, 1)] sCompare)]) [] 0 [(1, [(0, true), (1, true), (2, false), (3, true), (4, true)])] tbC_ok hC (by kernel_rfl) Tryd.func25 rfl rfl rfl (by kernel_rfl) (by kernel_rfl) ?_ ?_
  · intro args pre r h
    unfold sLess at h
    split at h
    · cases h; rfl
    · cases h
  · intro args pre r h hp
    unfold sLess at h
    split at h
    rotate_left
    · cases h
    rename_i xs ys
    cases h
    obtain ⟨⟨f, rfl, hf⟩, ⟨g, rfl, hg⟩⟩ := hp
    unfold hashC
    unfold sCompare
    generalize hg0 : lessB = g0
    generalize hg1 : cmpPre = g1
    generalize hg2 : bytesG = g2
    generalize hg3 : cutC = g3
    generalize hA : Arith.std = A
    cbv
    subst hA hg0 hg1 hg2 hg3
    obtain ⟨e1, b1⟩ := bytesG_hash f hf
    obtain ⟨e2, b2⟩ := bytesG_hash g hg
    refine Need.mk ⟨rfl, rfl, b1, b2, by decide, by decide⟩ fun _ => ?_
    show decide (Lib.compareBytes (bytesG 32 (cutC 1 (hashC f) 0)) (bytesG 32 (cutC 1 (hashC g) 0)) < 0) = decide (Lib.compareBytes (hashB f) (hashB g) < 0)
    rw [e1, e2]

def sRLess : List SV → Option (Prop × SV)
  | [.agg xs, .agg ys] => some (lessPre xs ys, .c (.bool (lessR xs ys)))
  | _ => none

set_option maxRecDepth 100000 in
set_option maxHeartbeats 2000000 in
theorem rlessP : Pure Tryd.prog 26 sRLess := by
  have hC : CtsOk Tryd.prog [(22, appPure sText)] := CtsOk.cons (Pure.ct rtextP) <| CtsOk.nil _
  refine Pure.of (E := tbC) (C := [(22, appPure sText)]) [] 0 [(1, [(0, true), (2, true), (1, false), (3, false), (4, true), (5, true)])] tbC_ok hC (by kernel_rfl) Tryd.func26 rfl rfl rfl (by kernel_rfl) (by kernel_rfl) ?_ ?_
  · intro args pre r h
    unfold sRLess at h
    split at h
    · cases h; rfl
    · cases h
  · intro args pre r h hp
    unfold sRLess at h
    split at h
    rotate_left
    · cases h
    rename_i xs ys
    cases h
    obtain ⟨⟨f, rfl, hf⟩, ⟨g, rfl, hg⟩⟩ := hp
    unfold hashC
    unfold sText
    generalize hg0 : lessR = g0
    generalize hg1 : HashC = g1
    generalize hg2 : u8s = g2
    generalize hA : Arith.std = A
    cbv
    subst hA hg0 hg1 hg2
    exact Need.mk ⟨f, rfl, hf⟩ fun _ => Need.mk ⟨g, rfl, hg⟩ fun _ => rfl

end Go.Proofs.YtophhppklaofaaaDoor.Vx
