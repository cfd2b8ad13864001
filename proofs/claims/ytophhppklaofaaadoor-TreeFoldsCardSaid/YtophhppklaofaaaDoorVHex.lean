/- Sums as texts, in digits, and in order, by the walker. -/
import Derived.Test.YtophhppklaofaaaDoorVRSum
namespace Go.Proofs.YtophhppklaofaaaDoor.Vx
open Go.RowKit Sha
set_option linter.unusedVariables false
set_option linter.unusedSimpArgs false
theorem Rel.addNilB {w0 : World} {G : List Nat} {ρ : List Pl} {h : List Ent} {W : World} (r : Rel w0 G ρ h W) (e : TypeId) : Rel w0 G (ρ ++ [⟨0, .slice none 0 0, 0⟩]) (h ++ [.bytes e []]) W :=
  r.bornE (en := .bytes e []) (q0 := ⟨0, .slice none 0 0, 0⟩) ((BytesAt.nil W e).okB _) rfl (fun b hb => by simp [Ent.fp, Value.ownBlock] at hb)
    ⟨rfl, rfl, rfl, Nat.le_refl _, fun _ _ _ => rfl⟩ (fun b hb => by simp [Ent.fp, Value.ownBlock] at hb)
/-- In a slot that holds the nil slice there stands a row without bytes. -/
theorem Runs.nilTmpB {P : Program} {m : Nat} {c : Code} {st : St} {K : Ex → St → Prop} (d : Nat) (e : TypeId) (hd0 : st.t.getD d .und = .c (.val (.slice none 0 0)))
    (h : Runs P m c ⟨st.t.set d (.c (.row st.h.length)), st.h ++ [.bytes e []]⟩ K) : Runs P m c st K := by
  refine ⟨fun w0 G ρb ρ1 a W hρ r hs hd => ?_⟩
  have r1 := r.addNilB e
  have hk : ((ρb ++ ρ1) ++ [(⟨0, .slice none 0 0, 0⟩ : Pl)])[st.h.length]? = some ⟨0, .slice none 0 0, 0⟩ := by
    rw [← r.len, List.getElem?_append_right (Nat.le_refl _)]
    simp
  have hs1 := hs.app_ρ [(⟨0, .slice none 0 0, 0⟩ : Pl)]
  have hget := tmps_get hs d
  rw [hd0] at hget
  have hu : a.tmps.getD d undef = .slice none 0 0 := by
    have h2 : CV.den (ρb ++ ρ1) (.val (.slice none 0 0)) = some (a.tmps.getD d undef) := hget
    simp only [CV.den, one, if_true] at h2
    exact (Option.some.inj h2).symm
  have hlt : d < a.tmps.size := tmps_lt hs hd0 (by simp)
  have hs2 := hs1.set d (y := .c (.row st.h.length)) (v := .slice none 0 0) (by
    show CV.den _ _ = _
    simp only [CV.den, hk, one, if_true])
  have e : a.tmps.toList.set d (.slice none 0 0) = a.tmps.toList := by
    rw [Array.getD_eq_getD_getElem?, Array.getElem?_eq_getElem hlt] at hu
    simp only [Option.getD_some] at hu
    rw [← hu]
    have : a.tmps[d] = a.tmps.toList[d]'(by simpa using hlt) := by simp
    rw [this, List.set_getElem_self]
  rw [e] at hs2
  rw [List.append_assoc] at r1 hs2
  exact h.run w0 G ρb (ρ1 ++ [⟨0, .slice none 0 0, 0⟩]) a W hρ r1 hs2 hd

/-- A sum's bytes, as cells. -/
def hashC (f : Nat → Int) : List CV := [.int .u8 (f 0), .int .u8 (f 1), .int .u8 (f 2), .int .u8 (f 3), .int .u8 (f 4), .int .u8 (f 5), .int .u8 (f 6), .int .u8 (f 7), .int .u8 (f 8), .int .u8 (f 9), .int .u8 (f 10), .int .u8 (f 11), .int .u8 (f 12), .int .u8 (f 13), .int .u8 (f 14), .int .u8 (f 15), .int .u8 (f 16), .int .u8 (f 17), .int .u8 (f 18), .int .u8 (f 19), .int .u8 (f 20), .int .u8 (f 21), .int .u8 (f 22), .int .u8 (f 23), .int .u8 (f 24), .int .u8 (f 25), .int .u8 (f 26), .int .u8 (f 27), .int .u8 (f 28), .int .u8 (f 29), .int .u8 (f 30), .int .u8 (f 31)]
def HashC (xs : List CV) : Prop := ∃ f : Nat → Int, xs = hashC f ∧ ∀ i, 0 ≤ f i ∧ f i < 256
/-- Cells as bytes. -/
def u8s (xs : List CV) : List UInt8 := xs.map fun c => byteOf [c]
def hashB (f : Nat → Int) : List UInt8 := (List.range 32).map fun i => UInt8.ofNat (f i).toNat
theorem u8s_hash (f : Nat → Int) : u8s (hashC f) = hashB f := rfl
theorem hashB_len (f : Nat → Int) : (hashB f).length = 32 := by simp [hashB]
theorem hashC_sum (l : List UInt8) : HashC (hashC (sumI l)) := ⟨sumI l, rfl, sumI_range l⟩
def digs : List UInt8 := [48, 49, 50, 51, 52, 53, 54, 55, 56, 57, 97, 98, 99, 100, 101, 102]
def dig (n : Nat) : UInt8 := digs.getD n 0
def hexB (b : UInt8) : List UInt8 := [dig (b.toNat / 16), dig (b.toNat % 16)]
def hexL (l : List UInt8) : List UInt8 := l.flatMap hexB
theorem hexL_snoc (l : List UInt8) (b : UInt8) : hexL (l ++ [b]) = hexL l ++ hexB b := by simp [hexL]
theorem hexL_len : ∀ l : List UInt8, (hexL l).length = 2 * l.length
  | [] => rfl
  | b :: l => by
    show (hexB b ++ hexL l).length = _
    rw [List.length_append, hexL_len l]
    show 2 + 2 * l.length = 2 * (l.length + 1)
    omega
theorem take_hash {f : Nat → Int} {i : Nat} (h : i < 32) : (hashB f).take (i + 1) = (hashB f).take i ++ [UInt8.ofNat (f i).toNat] := by
  unfold hashB
  rw [List.take_add_one, List.getElem?_map, List.getElem?_range h]
  rfl
theorem dig_cut (n : Int) (h0 : 0 ≤ n) (h1 : n < 256) : 0 ≤ n.fdiv (2 ^ (min (4 : Int).toNat 8)) ∧ n.fdiv (2 ^ (min (4 : Int).toNat 8)) < 16 ∧ 0 ≤ bitsStd .and .u8 n 15 ∧ bitsStd .and .u8 n 15 < 16 ∧
    [UInt8.ofNat (((digs.getD (n.fdiv (2 ^ (min (4 : Int).toNat 8))).toNat 0).toNat : Int)).toNat, UInt8.ofNat (((digs.getD (bitsStd .and .u8 n 15).toNat 0).toNat : Int)).toNat] = hexB (UInt8.ofNat n.toNat) := by
  have key : ∀ j : Fin 256, 0 ≤ (j.1 : Int).fdiv (2 ^ (min (4 : Int).toNat 8)) ∧ (j.1 : Int).fdiv (2 ^ (min (4 : Int).toNat 8)) < 16 ∧ 0 ≤ bitsStd .and .u8 (j.1 : Int) 15 ∧ bitsStd .and .u8 (j.1 : Int) 15 < 16 ∧
    [UInt8.ofNat (((digs.getD ((j.1 : Int).fdiv (2 ^ (min (4 : Int).toNat 8))).toNat 0).toNat : Int)).toNat, UInt8.ofNat (((digs.getD (bitsStd .and .u8 (j.1 : Int) 15).toNat 0).toNat : Int)).toNat] = hexB (UInt8.ofNat (j.1 : Int).toNat) := by decide +kernel
  have := key ⟨n.toNat, by omega⟩
  simp only at this
  rw [show ((n.toNat : Nat) : Int) = n by omega] at this
  exact this
theorem bytes_two (a b : UInt8) : Arith.std.bytesOk [(a.toNat : Int), (b.toNat : Int)] := fun n hn => by
  have ha := a.toNat_lt
  have hb := b.toNat_lt
  simp only [List.mem_cons, List.not_mem_nil, or_false] at hn
  rcases hn with rfl | rfl <;> omega
structure LHex (f : Nat → Int) where
  i : Int
  l : List UInt8
  h0 : 0 ≤ i
  h1 : i ≤ 32
  h2 : l = hexL ((hashB f).take i.toNat)
def sText : List SV → Option (Prop × SV)
  | [.agg xs] => some (HashC xs, .c (.str (u8s xs)))
  | _ => none

set_option maxRecDepth 100000 in
set_option maxHeartbeats 2000000 in
theorem textP : Pure Tryd.prog 21 sText := by
  have hC : CtsOk Tryd.prog [] := CtsOk.nil _
  refine Pure.of (E := tbC) (C := []) [] 0 [] tbC_ok hC (by kernel_rfl) Tryd.func21 rfl rfl rfl (by kernel_rfl) (by kernel_rfl) ?_ ?_
  · intro args pre r h
    unfold sText at h
    split at h
    · cases h; rfl
    · cases h
  · intro args pre r h hp
    unfold sText at h
    split at h
    rotate_left
    · cases h
    rename_i xs
    cases h
    obtain ⟨f, rfl, hf⟩ := hp
    unfold hashC
    generalize hg0 : u8s = g0
    generalize hA : Arith.std = A
    cbv
    subst hA hg0
    rfl

set_option maxRecDepth 100000 in
set_option maxHeartbeats 2000000 in
theorem rtextP : Pure Tryd.prog 22 sText := by
  have hC : CtsOk Tryd.prog [] := CtsOk.nil _
  refine Pure.of (E := tbY) (C := []) [] 0 [] tbY_ok hC (by kernel_rfl) Tryd.func22 rfl rfl rfl (by kernel_rfl) (by kernel_rfl) ?_ ?_
  · intro args pre r h
    unfold sText at h
    split at h
    · cases h; rfl
    · cases h
  · intro args pre r h hp
    unfold sText at h
    split at h
    rotate_left
    · cases h
    rename_i xs
    cases h
    obtain ⟨f, rfl, hf⟩ := hp
    unfold hashC
    generalize hg0 : u8s = g0
    generalize hL : lft Tryd.prog _ = L
    generalize hA : Arith.std = A
    cbv
    subst hA hg0 hL
    show Runs Tryd.prog 0 (.loop _) _ _
    refine loop_ruleR (N := env (lft Tryd.prog 0) 0 .std tbY [] []) rfl tbY_ok hC (fun c st K _ h => h) (by kernel_rfl) [] (X := LFill 32 f (fun _ => 0))
      (S := fun x => ⟨[.any, .c (.ptr 0 0), .any, .c (.sl 1 0 32 32), .c (.int .i64 x.i)] ++ List.replicate 13 .any, [.cells 24 [.int .u8 (f 0), .int .u8 (f 1), .int .u8 (f 2), .int .u8 (f 3), .int .u8 (f 4), .int .u8 (f 5), .int .u8 (f 6), .int .u8 (f 7), .int .u8 (f 8), .int .u8 (f 9), .int .u8 (f 10), .int .u8 (f 11), .int .u8 (f 12), .int .u8 (f 13), .int .u8 (f 14), .int .u8 (f 15), .int .u8 (f 16), .int .u8 (f 17), .int .u8 (f 18), .int .u8 (f 19), .int .u8 (f 20), .int .u8 (f 21), .int .u8 (f 22), .int .u8 (f 23), .int .u8 (f 24), .int .u8 (f 25), .int .u8 (f 26), .int .u8 (f 27), .int .u8 (f 28), .int .u8 (f 29), .int .u8 (f 30), .int .u8 (f 31)], .cells 5 [.int .u8 (x.g 0), .int .u8 (x.g 1), .int .u8 (x.g 2), .int .u8 (x.g 3), .int .u8 (x.g 4), .int .u8 (x.g 5), .int .u8 (x.g 6), .int .u8 (x.g 7), .int .u8 (x.g 8), .int .u8 (x.g 9), .int .u8 (x.g 10), .int .u8 (x.g 11), .int .u8 (x.g 12), .int .u8 (x.g 13), .int .u8 (x.g 14), .int .u8 (x.g 15), .int .u8 (x.g 16), .int .u8 (x.g 17), .int .u8 (x.g 18), .int .u8 (x.g 19), .int .u8 (x.g 20), .int .u8 (x.g 21), .int .u8 (x.g 22), .int .u8 (x.g 23), .int .u8 (x.g 24), .int .u8 (x.g 25), .int .u8 (x.g 26), .int .u8 (x.g 27), .int .u8 (x.g 28), .int .u8 (x.g 29), .int .u8 (x.g 30), .int .u8 (x.g 31)]]⟩) (μ := fun x => 32 - x.i.toNat) ⟨0, (fun _ => 0), by omega, by omega, fun j hj => absurd hj (by omega), fun j _ _ => rfl⟩ (by kernel_rfl) [0, 1] ?_ ?_
    · refine ⟨rfl, by decide, ?_, ?_⟩ <;> repeat' (first | exact trivial | exact rfl | apply And.intro)
    rintro ⟨i, g, hi0, hin, hlo, hhi⟩
    generalize hg0 : u8s = g0
    generalize hL : lft Tryd.prog _ = L
    generalize hA : Arith.std = A
    cbv
    subst hA hg0 hL
    replace hi0 : 0 ≤ i := hi0
    replace hin : i ≤ ((32 : Nat) : Int) := hin
    replace hlo : ∀ j : Nat, (j : Int) < i → g j = f j := hlo
    replace hhi : ∀ j : Nat, i ≤ (j : Int) → j < 32 → g j = (fun _ => 0) j := hhi
    refine Ife.mk (fun hlt => ?_) (fun hlt => ?_)
    · replace hlt : i < (32 : Int) := of_decide_eq_true (p := i < (32 : Int)) hlt
      repeat refine Need.mk (by first | exact trivial | (simp only [Arith.std, fitStd]; omega) | (simp [Arith.std, fitStd]; omega)) fun _ => ?_
      refine ⟨⟨i + 1, fun j => Arith.std.upd (i.toNat) (j) ?fv (g j), by omega, by omega, ?h2, ?h3⟩, [0, 1], (by show 32 - (i + 1).toNat < 32 - i.toNat; omega), ?st⟩
      case st => refine ⟨rfl, by decide, ?_, ?_⟩ <;> repeat' (first | exact trivial | exact rfl | apply And.intro)
      case h3 =>
        intro j hj hj2
        show (if i.toNat = j then _ else g j) = _
        rw [if_neg (by omega)]
        exact hhi j (by omega) hj2
      case h2 =>
        intro j hj
        show (if i.toNat = j then _ else g j) = _
        by_cases hji : i.toNat = j
        · rw [if_pos hji]
          obtain rfl : j = i.toNat := by omega
          clear hji hj
          show Arith.std.sel i.toNat [f 0, f 1, f 2, f 3, f 4, f 5, f 6, f 7, f 8, f 9, f 10, f 11, f 12, f 13, f 14, f 15, f 16, f 17, f 18, f 19, f 20, f 21, f 22, f 23, f 24, f 25, f 26, f 27, f 28, f 29, f 30, f 31] = f i.toNat
          exact sel_range f 32 _ (by omega)
        · rw [if_neg hji]
          exact hlo j (by omega)
    · replace hlt : ¬ i < (32 : Int) := of_decide_eq_false (p := i < (32 : Int)) hlt
      have hq : ∀ k : Nat, k < 32 → g k = f k := fun k hk => hlo k (by omega)
      show [UInt8.ofNat (g 0).toNat, UInt8.ofNat (g 1).toNat, UInt8.ofNat (g 2).toNat, UInt8.ofNat (g 3).toNat, UInt8.ofNat (g 4).toNat, UInt8.ofNat (g 5).toNat, UInt8.ofNat (g 6).toNat, UInt8.ofNat (g 7).toNat, UInt8.ofNat (g 8).toNat, UInt8.ofNat (g 9).toNat, UInt8.ofNat (g 10).toNat, UInt8.ofNat (g 11).toNat, UInt8.ofNat (g 12).toNat, UInt8.ofNat (g 13).toNat, UInt8.ofNat (g 14).toNat, UInt8.ofNat (g 15).toNat, UInt8.ofNat (g 16).toNat, UInt8.ofNat (g 17).toNat, UInt8.ofNat (g 18).toNat, UInt8.ofNat (g 19).toNat, UInt8.ofNat (g 20).toNat, UInt8.ofNat (g 21).toNat, UInt8.ofNat (g 22).toNat, UInt8.ofNat (g 23).toNat, UInt8.ofNat (g 24).toNat, UInt8.ofNat (g 25).toNat, UInt8.ofNat (g 26).toNat, UInt8.ofNat (g 27).toNat, UInt8.ofNat (g 28).toNat, UInt8.ofNat (g 29).toNat, UInt8.ofNat (g 30).toNat, UInt8.ofNat (g 31).toNat] = u8s (hashC f)
      rw [hq 0 (by decide), hq 1 (by decide), hq 2 (by decide), hq 3 (by decide), hq 4 (by decide), hq 5 (by decide), hq 6 (by decide), hq 7 (by decide), hq 8 (by decide), hq 9 (by decide), hq 10 (by decide), hq 11 (by decide), hq 12 (by decide), hq 13 (by decide), hq 14 (by decide), hq 15 (by decide), hq 16 (by decide), hq 17 (by decide), hq 18 (by decide), hq 19 (by decide), hq 20 (by decide), hq 21 (by decide), hq 22 (by decide), hq 23 (by decide), hq 24 (by decide), hq 25 (by decide), hq 26 (by decide), hq 27 (by decide), hq 28 (by decide), hq 29 (by decide), hq 30 (by decide), hq 31 (by decide)]
      rfl

def sHex : List SV → Option (Prop × SV)
  | [.agg xs] => some (HashC xs, .c (.str (hexL (u8s xs))))
  | _ => none

set_option maxRecDepth 100000 in
set_option maxHeartbeats 2000000 in
theorem hexP : Pure Tryd.prog 23 sHex := by
  have hC : CtsOk Tryd.prog [] := CtsOk.nil _
  refine Pure.of (E := tbC) (C := []) [] 0 [(5, [(2001, false), (2002, false), (0, true), (1, true), (2, true), (3, true), (4, true), (5, true), (6, true), (7, false), (8, false), (9, true)])] tbC_ok hC (by kernel_rfl) Tryd.func23 rfl rfl rfl (by kernel_rfl) (by kernel_rfl) ?_ ?_
  · intro args pre r h
    unfold sHex at h
    split at h
    · cases h; rfl
    · cases h
  · intro args pre r h hp
    unfold sHex at h
    split at h
    rotate_left
    · cases h
    rename_i xs
    cases h
    obtain ⟨f, rfl, hf⟩ := hp
    rw [u8s_hash]
    unfold hashC
    generalize hg0 : hexL = g0
    generalize hg1 : hashB = g1
    generalize hL : lft Tryd.prog _ = L
    generalize hA : Arith.std = A
    cbv
    subst hA hg0 hg1 hL
    refine Runs.nilTmpB 3 5 rfl ?_
    show Runs Tryd.prog 0 (.loop _) _ _
    refine loop_ruleR (N := env (lft Tryd.prog 0) 0 .std tbY [] [(5, [(2001, false), (2002, false), (0, true), (1, true), (2, true), (3, true), (4, true), (5, true), (6, true), (7, false), (8, false), (9, true)])]) rfl tbY_ok hC (fun c st K _ h => h) (by kernel_rfl) [1] (X := LHex f)
      (S := fun x => ⟨[.any, .any, .any, .c (.row 1), .any, .any, .agg [.int .u8 (f 0), .int .u8 (f 1), .int .u8 (f 2), .int .u8 (f 3), .int .u8 (f 4), .int .u8 (f 5), .int .u8 (f 6), .int .u8 (f 7), .int .u8 (f 8), .int .u8 (f 9), .int .u8 (f 10), .int .u8 (f 11), .int .u8 (f 12), .int .u8 (f 13), .int .u8 (f 14), .int .u8 (f 15), .int .u8 (f 16), .int .u8 (f 17), .int .u8 (f 18), .int .u8 (f 19), .int .u8 (f 20), .int .u8 (f 21), .int .u8 (f 22), .int .u8 (f 23), .int .u8 (f 24), .int .u8 (f 25), .int .u8 (f 26), .int .u8 (f 27), .int .u8 (f 28), .int .u8 (f 29), .int .u8 (f 30), .int .u8 (f 31)], .c (.int .i64 x.i)] ++ List.replicate 14 .any, [.cells 24 [.int .u8 (f 0), .int .u8 (f 1), .int .u8 (f 2), .int .u8 (f 3), .int .u8 (f 4), .int .u8 (f 5), .int .u8 (f 6), .int .u8 (f 7), .int .u8 (f 8), .int .u8 (f 9), .int .u8 (f 10), .int .u8 (f 11), .int .u8 (f 12), .int .u8 (f 13), .int .u8 (f 14), .int .u8 (f 15), .int .u8 (f 16), .int .u8 (f 17), .int .u8 (f 18), .int .u8 (f 19), .int .u8 (f 20), .int .u8 (f 21), .int .u8 (f 22), .int .u8 (f 23), .int .u8 (f 24), .int .u8 (f 25), .int .u8 (f 26), .int .u8 (f 27), .int .u8 (f 28), .int .u8 (f 29), .int .u8 (f 30), .int .u8 (f 31)], .bytes 5 x.l]⟩) (μ := fun x => 32 - x.i.toNat) ⟨0, [], by omega, by omega, rfl⟩ (by kernel_rfl) [0, 1] ?_ ?_
    · refine ⟨rfl, by decide, ?_, ?_⟩ <;> repeat' (first | exact trivial | exact rfl | apply And.intro)
    rintro ⟨i, l, hi0, hin, hl⟩
    generalize hg0 : hexL = g0
    generalize hg1 : hashB = g1
    generalize hL : lft Tryd.prog _ = L
    generalize hA : Arith.std = A
    cbv
    subst hA hg0 hg1 hL
    replace hi0 : 0 ≤ i := hi0
    replace hin : i ≤ 32 := hin
    replace hl : l = hexL ((hashB f).take i.toNat) := hl
    have hll : l.length ≤ 64 := by rw [hl, hexL_len, List.length_take]; omega
    refine Ife.mk (fun hlt => ?_) (fun hlt => ?_)
    · replace hlt : i < 32 := of_decide_eq_true (p := i < 32) hlt
      have hsel : Arith.std.sel i.toNat [f 0, f 1, f 2, f 3, f 4, f 5, f 6, f 7, f 8, f 9, f 10, f 11, f 12, f 13, f 14, f 15, f 16, f 17, f 18, f 19, f 20, f 21, f 22, f 23, f 24, f 25, f 26, f 27, f 28, f 29, f 30, f 31] = f i.toNat := sel_range f 32 _ (by omega)
      have hmem := hf i.toNat
      have hts := take_hash (f := f) (i := i.toNat) (by omega)
      obtain ⟨d1, d2, d3, d4, d5⟩ := dig_cut (f i.toNat) hmem.1 hmem.2
      rw [← hsel] at d1 d2 d3 d4
      refine Need.mk (by first | exact trivial | (simp only [Arith.std, fitStd]; omega) | (simp [Arith.std, fitStd]; omega)) fun _ => ?_
      refine Need.mk (by first | exact trivial | (simp only [Arith.std, fitStd]; omega) | (simp [Arith.std, fitStd]; omega)) fun _ => ?_
      refine Need.mk ⟨d1, d2⟩ fun _ => Need.mk ⟨d3, d4⟩ fun _ => ?_
      refine Need.mk (bytes_two _ _) fun _ => Need.mk (by show l.length + 2 ≤ 140737488355328; omega) fun _ => ?_
      refine Need.mk (by first | exact trivial | (simp only [Arith.std, fitStd]; omega) | (simp [Arith.std, fitStd]; omega)) fun _ => ?_
      refine ⟨⟨i + 1, l ++ ?lv, by omega, by omega, ?h2⟩, [0, 3], (by show 32 - (i + 1).toNat < 32 - i.toNat; omega), ?st⟩
      case st => refine ⟨rfl, by decide, ?_, ?_⟩ <;> repeat' (first | exact trivial | exact rfl | apply And.intro)
      case h2 =>
        rw [show (i + 1).toNat = i.toNat + 1 by omega, hts, hexL_snoc, ← hl, ← d5, ← hsel]
        rfl
    · replace hlt : ¬ i < 32 := of_decide_eq_false (p := i < 32) hlt
      show l = hexL (hashB f)
      rw [hl, List.take_of_length_le (by rw [hashB_len]; omega)]

end Go.Proofs.YtophhppklaofaaaDoor.Vx
