/- Sums as texts, in digits, and in order, by the walker. -/
import Derived.Test.YtophhppklaofaaaDoorM15
section
namespace Go.Proofs.YtophhppklaofaaaDoor.Vx
open Go.RowKit Sha
set_option linter.unusedVariables false
set_option linter.unusedSimpArgs false
theorem Rel.addNilB {w0 : World} {G : Gs} {ρ : List Pl} {h : List Ent} {W : World} (r : Rel w0 G ρ h W) (e : TypeId) : Rel w0 G (ρ ++ [⟨0, .slice none 0 0, 0⟩]) (h ++ [.bytes e []]) W :=
  r.bornE (en := .bytes e []) (q0 := ⟨0, .slice none 0 0, 0⟩) ((BytesAt.nil W e).okB _) rfl (fun b hb => by simp [Ent.fp, Value.ownBlock] at hb)
    ⟨rfl, rfl, rfl, Nat.le_refl _, fun _ _ _ => rfl⟩ (fun b hb => by simp [Ent.fp, Value.ownBlock] at hb)
/-- In a slot that holds the nil slice there stands a row without bytes. -/
theorem Runs.nilTmpB {P : Program} {m : Nat} {c : Code} {st : St} {K : Ex → St → Prop} (d : Nat) (e : TypeId) (hd0 : st.t.getD d .und = .c (.val (.slice none 0 0)))
    (h : Runs P m c ⟨st.t.set d (.c (.row st.h.length)), st.h ++ [.bytes e []]⟩ K) : Runs P m c st K := by
  refine ⟨fun w0 G ρb ρ1 a W hρ r hs hd => ?_⟩
  have r1 := r.addNilB e
  have hk : ((ρb ++ ρ1) ++ [(⟨0, .slice none 0 0, 0⟩ : Pl)])[st.h.length]? = some ⟨0, .slice none 0 0, 0⟩ := by
    rw [← r.len, List.getElem?_append_right (Nat.le_refl _)]
    simp
  have hs1 := hs.app_ρ [(⟨0, .slice none 0 0, 0⟩ : Pl)]
  have hget := tmps_get hs d
  rw [hd0] at hget
  have hu : a.tmps.getD d undef = .slice none 0 0 := by
    have h2 : CV.den (ρb ++ ρ1) (.val (.slice none 0 0)) = some (a.tmps.getD d undef) := hget
    simp only [CV.den, one, if_true] at h2
    exact (Option.some.inj h2).symm
  have hlt : d < a.tmps.size := tmps_lt hs hd0 (by simp)
  have hs2 := hs1.set d (y := .c (.row st.h.length)) (v := .slice none 0 0) (by
    show CV.den _ _ = _
    simp only [CV.den, hk, one, if_true])
  have e : a.tmps.toList.set d (.slice none 0 0) = a.tmps.toList := by
    rw [Array.getD_eq_getD_getElem?, Array.getElem?_eq_getElem hlt] at hu
    simp only [Option.getD_some] at hu
    rw [← hu]
    have : a.tmps[d] = a.tmps.toList[d]'(by simpa using hlt) := by simp
    rw [this, List.set_getElem_self]
  rw [e] at hs2
  rw [List.append_assoc] at r1 hs2
  exact h.run w0 G ρb (ρ1 ++ [⟨0, .slice none 0 0, 0⟩]) a W hρ r1 hs2 hd

/-- A sum's bytes, as cells. -/
def hashC (f : Nat → Int) : List CV := [.int .u8 (f 0), .int .u8 (f 1), .int .u8 (f 2), .int .u8 (f 3), .int .u8 (f 4), .int .u8 (f 5), .int .u8 (f 6), .int .u8 (f 7), .int .u8 (f 8), .int .u8 (f 9), .int .u8 (f 10), .int .u8 (f 11), .int .u8 (f 12), .int .u8 (f 13), .int .u8 (f 14), .int .u8 (f 15), .int .u8 (f 16), .int .u8 (f 17), .int .u8 (f 18), .int .u8 (f 19), .int .u8 (f 20), .int .u8 (f 21), .int .u8 (f 22), .int .u8 (f 23), .int .u8 (f 24), .int .u8 (f 25), .int .u8 (f 26), .int .u8 (f 27), .int .u8 (f 28), .int .u8 (f 29), .int .u8 (f 30), .int .u8 (f 31)]
def HashC (xs : List CV) : Prop := ∃ f : Nat → Int, xs = hashC f ∧ ∀ i, 0 ≤ f i ∧ f i < 256
/-- Cells as bytes. -/
def u8s (xs : List CV) : List UInt8 := xs.map fun c => byteOf [c]
def hashB (f : Nat → Int) : List UInt8 := (List.range 32).map fun i => UInt8.ofNat (f i).toNat
theorem u8s_hash (f : Nat → Int) : u8s (hashC f) = hashB f := rfl
theorem hashB_len (f : Nat → Int) : (hashB f).length = 32 := by simp [hashB]
theorem hashC_sum (l : List UInt8) : HashC (hashC (sumI l)) := ⟨sumI l, rfl, sumI_range l⟩
def digs : List UInt8 := [48, 49, 50, 51, 52, 53, 54, 55, 56, 57, 97, 98, 99, 100, 101, 102]
def dig (n : Nat) : UInt8 := digs.getD n 0
def hexB (b : UInt8) : List UInt8 := [dig (b.toNat / 16), dig (b.toNat % 16)]
def hexL (l : List UInt8) : List UInt8 := l.flatMap hexB
theorem hexL_snoc (l : List UInt8) (b : UInt8) : hexL (l ++ [b]) = hexL l ++ hexB b := by simp [hexL]
theorem hexL_len : ∀ l : List UInt8, (hexL l).length = 2 * l.length
  | [] => rfl
  | b :: l => by
    show (hexB b ++ hexL l).length = _
    rw [List.length_append, hexL_len l]
    show 2 + 2 * l.length = 2 * (l.length + 1)
    omega
theorem take_hash {f : Nat → Int} {i : Nat} (h : i < 32) : (hashB f).take (i + 1) = (hashB f).take i ++ [UInt8.ofNat (f i).toNat] := by
  unfold hashB
  rw [List.take_add_one, List.getElem?_map, List.getElem?_range h]
  rfl
theorem dig_cut (n : Int) (h0 : 0 ≤ n) (h1 : n < 256) : 0 ≤ n.fdiv (2 ^ (min (4 : Int).toNat 8)) ∧ n.fdiv (2 ^ (min (4 : Int).toNat 8)) < 16 ∧ 0 ≤ bitsStd .and .u8 n 15 ∧ bitsStd .and .u8 n 15 < 16 ∧
    [UInt8.ofNat (((digs.getD (n.fdiv (2 ^ (min (4 : Int).toNat 8))).toNat 0).toNat : Int)).toNat, UInt8.ofNat (((digs.getD (bitsStd .and .u8 n 15).toNat 0).toNat : Int)).toNat] = hexB (UInt8.ofNat n.toNat) := by
  have key : ∀ j : Fin 256, 0 ≤ (j.1 : Int).fdiv (2 ^ (min (4 : Int).toNat 8)) ∧ (j.1 : Int).fdiv (2 ^ (min (4 : Int).toNat 8)) < 16 ∧ 0 ≤ bitsStd .and .u8 (j.1 : Int) 15 ∧ bitsStd .and .u8 (j.1 : Int) 15 < 16 ∧
    [UInt8.ofNat (((digs.getD ((j.1 : Int).fdiv (2 ^ (min (4 : Int).toNat 8))).toNat 0).toNat : Int)).toNat, UInt8.ofNat (((digs.getD (bitsStd .and .u8 (j.1 : Int) 15).toNat 0).toNat : Int)).toNat] = hexB (UInt8.ofNat (j.1 : Int).toNat) := by decide +kernel
  have := key ⟨n.toNat, by omega⟩
  simp only at this
  rw [show ((n.toNat : Nat) : Int) = n by omega] at this
  exact this
theorem bytes_two (a b : UInt8) : Arith.std.bytesOk [(a.toNat : Int), (b.toNat : Int)] := fun n hn => by
  have ha := a.toNat_lt
  have hb := b.toNat_lt
  simp only [List.mem_cons, List.not_mem_nil, or_false] at hn
  rcases hn with rfl | rfl <;> omega
structure LHex (f : Nat → Int) where
  i : Int
  l : List UInt8
  h0 : 0 ≤ i
  h1 : i ≤ 32
  h2 : l = hexL ((hashB f).take i.toNat)
def sText : List SV → Option (Prop × SV)
  | [.agg xs] => some (HashC xs, .c (.str (u8s xs)))
  | _ => none


set_option maxRecDepth 100000 in
set_option maxHeartbeats 2000000 in
theorem rtextP : Pure Tryd.prog 22 sText := by
  have hC : CtsOk Tryd.prog [] := CtsOk.nil _
  refine Pure.of (E := tbY) (C := []) [] 0 [] tbY_ok hC (by kernel_rfl) Tryd.func22 rfl rfl rfl (by kernel_rfl) (by kernel_rfl) ?_ ?_
  · intro args pre r h
    unfold sText at h
    split at h
    · cases h; rfl
    · cases h
  · intro args pre r h hp
    unfold sText at h
    split at h
    rotate_left
    · cases h
    rename_i xs
    cases h
    obtain ⟨f, rfl, hf⟩ := hp
    unfold hashC
    generalize hg0 : u8s = g0
    generalize hL : lft Tryd.prog _ = L
    generalize hA : Arith.std = A
    cbv
    subst hA hg0 hL
    show Runs Tryd.prog 0 (.loop _) _ _
    refine loop_ruleR (N := env (lft Tryd.prog 0) 0 .std tbY [] []) rfl tbY_ok hC (fun c st K _ h => h) (by kernel_rfl) [] (X := LFill 32 f (fun _ => 0))
      (S := fun x => ⟨[.any, .c (.ptr 0 0), .any, .c (.sl 1 0 32 32), .c (.int .i64 x.i)] ++ List.replicate 13 .any, [.cells 24 [.int .u8 (f 0), .int .u8 (f 1), .int .u8 (f 2), .int .u8 (f 3), .int .u8 (f 4), .int .u8 (f 5), .int .u8 (f 6), .int .u8 (f 7), .int .u8 (f 8), .int .u8 (f 9), .int .u8 (f 10), .int .u8 (f 11), .int .u8 (f 12), .int .u8 (f 13), .int .u8 (f 14), .int .u8 (f 15), .int .u8 (f 16), .int .u8 (f 17), .int .u8 (f 18), .int .u8 (f 19), .int .u8 (f 20), .int .u8 (f 21), .int .u8 (f 22), .int .u8 (f 23), .int .u8 (f 24), .int .u8 (f 25), .int .u8 (f 26), .int .u8 (f 27), .int .u8 (f 28), .int .u8 (f 29), .int .u8 (f 30), .int .u8 (f 31)], .cells 5 [.int .u8 (x.g 0), .int .u8 (x.g 1), .int .u8 (x.g 2), .int .u8 (x.g 3), .int .u8 (x.g 4), .int .u8 (x.g 5), .int .u8 (x.g 6), .int .u8 (x.g 7), .int .u8 (x.g 8), .int .u8 (x.g 9), .int .u8 (x.g 10), .int .u8 (x.g 11), .int .u8 (x.g 12), .int .u8 (x.g 13), .int .u8 (x.g 14), .int .u8 (x.g 15), .int .u8 (x.g 16), .int .u8 (x.g 17), .int .u8 (x.g 18), .int .u8 (x.g 19), .int .u8 (x.g 20), .int .u8 (x.g 21), .int .u8 (x.g 22), .int .u8 (x.g 23), .int .u8 (x.g 24), .int .u8 (x.g 25), .int .u8 (x.g 26), .int .u8 (x.g 27), .int .u8 (x.g 28), .int .u8 (x.g 29), .int .u8 (x.g 30), .int .u8 (x.g 31)]]⟩) (μ := fun x => 32 - x.i.toNat) ⟨0, (fun _ => 0), by omega, by omega, fun j hj => absurd hj (by omega), fun j _ _ => rfl⟩ (by kernel_rfl) [0, 1] ?_ ?_
    · refine ⟨rfl, by decide, ?_, ?_⟩ <;> repeat' (first | exact trivial | exact rfl | apply And.intro)
    rintro ⟨i, g, hi0, hin, hlo, hhi⟩
    generalize hg0 : u8s = g0
    generalize hL : lft Tryd.prog _ = L
    generalize hA : Arith.std = A
    cbv
    subst hA hg0 hL
    replace hi0 : 0 ≤ i := hi0
    replace hin : i ≤ ((32 : Nat) : Int) := hin
    replace hlo : ∀ j : Nat, (j : Int) < i → g j = f j := hlo
    replace hhi : ∀ j : Nat, i ≤ (j : Int) → j < 32 → g j = (fun _ => 0) j := hhi
    refine Ife.mk (fun hlt => ?_) (fun hlt => ?_)
    · replace hlt : i < (32 : Int) := of_decide_eq_true (p := i < (32 : Int)) hlt
      repeat refine Need.mk (by first | exact trivial | (simp only [Arith.std, fitStd]; omega) | (simp [Arith.std, fitStd]; omega)) fun _ => ?_
      refine ⟨⟨i + 1, fun j => Arith.std.upd (i.toNat) (j) ?fv (g j), by omega, by omega, ?h2, ?h3⟩, [0, 1], (by show 32 - (i + 1).toNat < 32 - i.toNat; omega), ?st⟩
      case st => refine ⟨rfl, by decide, ?_, ?_⟩ <;> repeat' (first | exact trivial | exact rfl | apply And.intro)
      case h3 =>
        intro j hj hj2
        show (if i.toNat = j then _ else g j) = _
        rw [if_neg (by omega)]
        exact hhi j (by omega) hj2
      case h2 =>
        intro j hj
        show (if i.toNat = j then _ else g j) = _
        by_cases hji : i.toNat = j
        · rw [if_pos hji]
          obtain rfl : j = i.toNat := by omega
          clear hji hj
          show Arith.std.sel i.toNat [f 0, f 1, f 2, f 3, f 4, f 5, f 6, f 7, f 8, f 9, f 10, f 11, f 12, f 13, f 14, f 15, f 16, f 17, f 18, f 19, f 20, f 21, f 22, f 23, f 24, f 25, f 26, f 27, f 28, f 29, f 30, f 31] = f i.toNat
          exact sel_range f 32 _ (by omega)
        · rw [if_neg hji]
          exact hlo j (by omega)
    · replace hlt : ¬ i < (32 : Int) := of_decide_eq_false (p := i < (32 : Int)) hlt
      have hq : ∀ k : Nat, k < 32 → g k = f k := fun k hk => hlo k (by omega)
      show [UInt8.ofNat (g 0).toNat, UInt8.ofNat (g 1).toNat, UInt8.ofNat (g 2).toNat, UInt8.ofNat (g 3).toNat, UInt8.ofNat (g 4).toNat, UInt8.ofNat (g 5).toNat, UInt8.ofNat (g 6).toNat, UInt8.ofNat (g 7).toNat, UInt8.ofNat (g 8).toNat, UInt8.ofNat (g 9).toNat, UInt8.ofNat (g 10).toNat, UInt8.ofNat (g 11).toNat, UInt8.ofNat (g 12).toNat, UInt8.ofNat (g 13).toNat, UInt8.ofNat (g 14).toNat, UInt8.ofNat (g 15).toNat, UInt8.ofNat (g 16).toNat, UInt8.ofNat (g 17).toNat, UInt8.ofNat (g 18).toNat, UInt8.ofNat (g 19).toNat, UInt8.ofNat (g 20).toNat, UInt8.ofNat (g 21).toNat, UInt8.ofNat (g 22).toNat, UInt8.ofNat (g 23).toNat, UInt8.ofNat (g 24).toNat, UInt8.ofNat (g 25).toNat, UInt8.ofNat (g 26).toNat, UInt8.ofNat (g 27).toNat, UInt8.ofNat (g 28).toNat, UInt8.ofNat (g 29).toNat, UInt8.ofNat (g 30).toNat, UInt8.ofNat (g 31).toNat] = u8s (hashC f)
      rw [hq 0 (by decide), hq 1 (by decide), hq 2 (by decide), hq 3 (by decide), hq 4 (by decide), hq 5 (by decide), hq 6 (by decide), hq 7 (by decide), hq 8 (by decide), hq 9 (by decide), hq 10 (by decide), hq 11 (by decide), hq 12 (by decide), hq 13 (by decide), hq 14 (by decide), hq 15 (by decide), hq 16 (by decide), hq 17 (by decide), hq 18 (by decide), hq 19 (by decide), hq 20 (by decide), hq 21 (by decide), hq 22 (by decide), hq 23 (by decide), hq 24 (by decide), hq 25 (by decide), hq 26 (by decide), hq 27 (by decide), hq 28 (by decide), hq 29 (by decide), hq 30 (by decide), hq 31 (by decide)]
      rfl

def sHex : List SV → Option (Prop × SV)
  | [.agg xs] => some (HashC xs, .c (.str (hexL (u8s xs))))
  | _ => none

set_option maxRecDepth 100000 in
set_option maxHeartbeats 2000000 in
theorem hexP : Pure Tryd.prog 23 sHex := by
  have hC : CtsOk Tryd.prog [] := CtsOk.nil _
  refine Pure.of (E := tbC) (C := []) [] 0 [(5, [(2001, false), (2002, false), (0, true), (1, true), (2, true), (3, true), (4, true), (5, true), (6, true), (7, false), (8, false), (9, true)])] tbC_ok hC (by kernel_rfl) Tryd.func23 rfl rfl rfl (by kernel_rfl) (by kernel_rfl) ?_ ?_
  · intro args pre r h
    unfold sHex at h
    split at h
    · cases h; rfl
    · cases h
  · intro args pre r h hp
    unfold sHex at h
    split at h
    rotate_left
    · cases h
    rename_i xs
    cases h
    obtain ⟨f, rfl, hf⟩ := hp
    rw [u8s_hash]
    unfold hashC
    generalize hg0 : hexL = g0
    generalize hg1 : hashB = g1
    generalize hL : lft Tryd.prog _ = L
    generalize hA : Arith.std = A
    cbv
    subst hA hg0 hg1 hL
    refine Runs.nilTmpB 3 5 rfl ?_
    show Runs Tryd.prog 0 (.loop _) _ _
    refine loop_ruleR (N := env (lft Tryd.prog 0) 0 .std tbY [] [(5, [(2001, false), (2002, false), (0, true), (1, true), (2, true), (3, true), (4, true), (5, true), (6, true), (7, false), (8, false), (9, true)])]) rfl tbY_ok hC (fun c st K _ h => h) (by kernel_rfl) [1] (X := LHex f)
      (S := fun x => ⟨[.any, .any, .any, .c (.row 1), .any, .any, .agg [.int .u8 (f 0), .int .u8 (f 1), .int .u8 (f 2), .int .u8 (f 3), .int .u8 (f 4), .int .u8 (f 5), .int .u8 (f 6), .int .u8 (f 7), .int .u8 (f 8), .int .u8 (f 9), .int .u8 (f 10), .int .u8 (f 11), .int .u8 (f 12), .int .u8 (f 13), .int .u8 (f 14), .int .u8 (f 15), .int .u8 (f 16), .int .u8 (f 17), .int .u8 (f 18), .int .u8 (f 19), .int .u8 (f 20), .int .u8 (f 21), .int .u8 (f 22), .int .u8 (f 23), .int .u8 (f 24), .int .u8 (f 25), .int .u8 (f 26), .int .u8 (f 27), .int .u8 (f 28), .int .u8 (f 29), .int .u8 (f 30), .int .u8 (f 31)], .c (.int .i64 x.i)] ++ List.replicate 14 .any, [.cells 24 [.int .u8 (f 0), .int .u8 (f 1), .int .u8 (f 2), .int .u8 (f 3), .int .u8 (f 4), .int .u8 (f 5), .int .u8 (f 6), .int .u8 (f 7), .int .u8 (f 8), .int .u8 (f 9), .int .u8 (f 10), .int .u8 (f 11), .int .u8 (f 12), .int .u8 (f 13), .int .u8 (f 14), .int .u8 (f 15), .int .u8 (f 16), .int .u8 (f 17), .int .u8 (f 18), .int .u8 (f 19), .int .u8 (f 20), .int .u8 (f 21), .int .u8 (f 22), .int .u8 (f 23), .int .u8 (f 24), .int .u8 (f 25), .int .u8 (f 26), .int .u8 (f 27), .int .u8 (f 28), .int .u8 (f 29), .int .u8 (f 30), .int .u8 (f 31)], .bytes 5 x.l]⟩) (μ := fun x => 32 - x.i.toNat) ⟨0, [], by omega, by omega, rfl⟩ (by kernel_rfl) [0, 1] ?_ ?_
    · refine ⟨rfl, by decide, ?_, ?_⟩ <;> repeat' (first | exact trivial | exact rfl | apply And.intro)
    rintro ⟨i, l, hi0, hin, hl⟩
    generalize hg0 : hexL = g0
    generalize hg1 : hashB = g1
    generalize hL : lft Tryd.prog _ = L
    generalize hA : Arith.std = A
    cbv
    subst hA hg0 hg1 hL
    replace hi0 : 0 ≤ i := hi0
    replace hin : i ≤ 32 := hin
    replace hl : l = hexL ((hashB f).take i.toNat) := hl
    have hll : l.length ≤ 64 := by rw [hl, hexL_len, List.length_take]; omega
    refine Ife.mk (fun hlt => ?_) (fun hlt => ?_)
    · replace hlt : i < 32 := of_decide_eq_true (p := i < 32) hlt
      have hsel : Arith.std.sel i.toNat [f 0, f 1, f 2, f 3, f 4, f 5, f 6, f 7, f 8, f 9, f 10, f 11, f 12, f 13, f 14, f 15, f 16, f 17, f 18, f 19, f 20, f 21, f 22, f 23, f 24, f 25, f 26, f 27, f 28, f 29, f 30, f 31] = f i.toNat := sel_range f 32 _ (by omega)
      have hmem := hf i.toNat
      have hts := take_hash (f := f) (i := i.toNat) (by omega)
      obtain ⟨d1, d2, d3, d4, d5⟩ := dig_cut (f i.toNat) hmem.1 hmem.2
      rw [← hsel] at d1 d2 d3 d4
      refine Need.mk (by first | exact trivial | (simp only [Arith.std, fitStd]; omega) | (simp [Arith.std, fitStd]; omega)) fun _ => ?_
      refine Need.mk (by first | exact trivial | (simp only [Arith.std, fitStd]; omega) | (simp [Arith.std, fitStd]; omega)) fun _ => ?_
      refine Need.mk ⟨d1, d2⟩ fun _ => Need.mk ⟨d3, d4⟩ fun _ => ?_
      refine Need.mk (bytes_two _ _) fun _ => Need.mk (by show l.length + 2 ≤ 140737488355328; omega) fun _ => ?_
      refine Need.mk (by first | exact trivial | (simp only [Arith.std, fitStd]; omega) | (simp [Arith.std, fitStd]; omega)) fun _ => ?_
      refine ⟨⟨i + 1, l ++ ?lv, by omega, by omega, ?h2⟩, [0, 3], (by show 32 - (i + 1).toNat < 32 - i.toNat; omega), ?st⟩
      case st => refine ⟨rfl, by decide, ?_, ?_⟩ <;> repeat' (first | exact trivial | exact rfl | apply And.intro)
      case h2 =>
        rw [show (i + 1).toNat = i.toNat + 1 by omega, hts, hexL_snoc, ← hl, ← d5, ← hsel]
        rfl
    · replace hlt : ¬ i < 32 := of_decide_eq_false (p := i < 32) hlt
      show l = hexL (hashB f)
      rw [hl, List.take_of_length_le (by rw [hashB_len]; omega)]

end Go.Proofs.YtophhppklaofaaaDoor.Vx
end

section
/- Texts in digits; sums in order, by the walker. -/
namespace Go.Proofs.YtophhppklaofaaaDoor.Vx
open Go.RowKit Sha
set_option linter.unusedVariables false
set_option linter.unusedSimpArgs false
def digPre (n : Int) : Prop := 0 ≤ n ∧ n < 16
def digI (n : Int) : Int := ((dig n.toNat).toNat : Int)
def sDigit : List SV → Option (Prop × SV)
  | [.c (.int .i64 n)] => some (digPre n, .c (.int .u8 (digI n)))
  | _ => none




theorem run_loadBytes {P : Program} (w : World) (b : Nat) : ∀ (l : List UInt8) (acc : List UInt8) (o : Nat), (∀ (j : Nat) (h : j < l.length), w.cell? ⟨b, o + j, none⟩ = some (byteV l[j])) → (Extern.Bytes.loadBytes ⟨b, o, none⟩ l.length ⟨acc.toArray⟩).run P w = .ok ⟨(acc ++ l).toArray⟩ w
  | [], acc, o, h => by simp [Extern.Bytes.loadBytes]
  | c :: l, acc, o, h => by
    have h0 := h 0 (by simp)
    rw [Nat.add_zero] at h0
    have ih := run_loadBytes (P := P) w b l (acc ++ [c]) (o + 1) (fun j hj => by
      have := h (j + 1) (by simpa using hj)
      rw [show o + 1 + j = o + (j + 1) by omega]
      simpa using this)
    simp only [List.length_cons, Extern.Bytes.loadBytes, Sem.run_bind]
    rw [run_load, h0]
    simp only [List.getElem_cons_zero, byteV, Result.andThen_ok, addr_add]
    have e : (⟨acc.toArray⟩ : ByteArray).push ((c.toNat : Int)).toNat.toUInt8 = ⟨(acc ++ [c]).toArray⟩ := by
      apply ByteArray.ext
      simp [ByteArray.push]
    rw [e, ih]
    simp
theorem run_compareBytes {P : Program} (w : World) (b1 o1 c1 b2 o2 c2 : Nat) (l m : List UInt8) (h1 : ∀ (j : Nat) (h : j < l.length), w.cell? ⟨b1, o1 + j, none⟩ = some (byteV l[j])) (h2 : ∀ (j : Nat) (h : j < m.length), w.cell? ⟨b2, o2 + j, none⟩ = some (byteV m[j])) :
    (Extern.BytealgCompare.compare #[.slice (some ⟨b1, o1, none⟩) l.length c1, .slice (some ⟨b2, o2, none⟩) m.length c2]).run P w = .ok (.int .i64 (Lib.compareBytes l m)) w := by
  have e1 := run_loadBytes (P := P) w b1 l [] o1 h1
  have e2 := run_loadBytes (P := P) w b2 m [] o2 h2
  simp only [List.nil_append] at e1 e2
  change Sem.run P (do pure (goInt (Extern.BytealgCompare.cmp (← Extern.Bytes.bytesOf (.slice (some ⟨b1, o1, none⟩) l.length c1)) (← Extern.Bytes.bytesOf (.slice (some ⟨b2, o2, none⟩) m.length c2))))) w = _
  simp only [Extern.Bytes.bytesOf, Sem.run_bind]
  rw [show (ByteArray.empty) = (⟨([] : List UInt8).toArray⟩ : ByteArray) from rfl, e1]
  simp only [Result.andThen_ok]
  rw [e2]
  simp [Lib.cmp_eq, goInt]
def cmpPre (ty one n : Nat) (get : Nat → List CV) (ty' one' m : Nat) (get' : Nat → List CV) : Prop := one = 1 ∧ one' = 1 ∧ BytesG n get ∧ BytesG m get' ∧ 0 < n ∧ 0 < m
def sCompare : SpecF
  | [.c (.row 0), .c (.row 1)], [.elems ty one n get, .elems ty' one' m get'] => some (cmpPre ty one n get ty' one' m get', .c (.int .i64 (Lib.compareBytes (bytesG n get) (bytesG m get'))), [.dead, .dead])
  | _, _ => none

theorem bytesAt_elems {ρ : List Pl} {W : World} {p : Pl} {ty n : Nat} {get : Nat → List CV} (h : Ent.ok ρ p W (.elems ty 1 n get)) (hb : BytesG n get) (j : Nat) (hj : j < (bytesG n get).length) : W.cell? ⟨p.b, p.o + j, none⟩ = some (byteV (bytesG n get)[j]) := by
  have hj' : j < n := by rw [bytesG_len] at hj; exact hj
  obtain ⟨vs, hv, hc⟩ := h.2 j hj'
  rw [bytesG_get hb j hj'] at hv
  have hv2 : [Value.int .u8 (byteN (bytesG n get) j)] = vs := (show IsL [] [CV.int .u8 (byteN (bytesG n get) j)] [.int .u8 (byteN (bytesG n get) j)] from rfl).unique hv
  have h1 := hc 0 (.int .u8 (byteN (bytesG n get) j)) (by rw [← hv2]; rfl)
  rw [Nat.mul_one, Nat.add_zero] at h1
  rw [h1]
  unfold byteN byteV
  rw [List.getD_eq_getElem?_getD, List.getElem?_eq_getElem hj]
  rfl
set_option maxHeartbeats 1000000 in
set_option maxRecDepth 100000 in
theorem compareWalk (w : World) (b1 o1 c1 b2 o2 c2 : Nat) (l m : List UInt8) (h1 : ∀ (j : Nat) (h : j < l.length), w.cell? ⟨b1, o1 + j, none⟩ = some (byteV l[j])) (h2 : ∀ (j : Nat) (h : j < m.length), w.cell? ⟨b2, o2 + j, none⟩ = some (byteV m[j])) :
    Calls Tryd.prog 78 #[.slice (some ⟨b1, o1, none⟩) l.length c1, .slice (some ⟨b2, o2, none⟩) m.length c2] w fun e w' => e = .returned (.int .i64 (Lib.compareBytes l m)) ∧ w' = w := by
  have hr := run_compareBytes (P := Tryd.prog) w b1 o1 c1 b2 o2 c2 l m h1 h2
  clear h1 h2
  go_enter Tryd.func78, Tryd.ntmps78
  go_wp2
  rw [run_callFunc_extern Tryd.func110 (by kernel_rfl) (by kernel_rfl) (by kernel_rfl) (e := Extern.BytealgCompare.compare) (by kernel_rfl), hr]
  simp only [Result.andThen]
  rw [Oper.upon_value]
  go_wp2
  go_ret
  exact ⟨rfl, rfl⟩
theorem compareP : Fn Tryd.prog 78 [] [(5, 1), (5, 1)] sCompare := by
  refine Fn.plain (by kernel_rfl) (fun args h pre res h' hs => ?_) fun args h pre res h' hs hp ρ W us rel hus => ?_
  · unfold sCompare at hs
    split at hs
    · cases hs; exact ⟨rfl, Nat.le_refl _⟩
    · cases hs
  · unfold sCompare at hs
    split at hs
    rotate_left
    · cases hs
    rename_i ty one n get ty' one' m get'
    cases hs
    obtain ⟨rfl, rfl, hb1, hb2, h01, h02⟩ := hp
    obtain ⟨u0, us1, rfl, hu0, u1, us2, rfl, hu1, rfl⟩ := hus
    obtain ⟨p, hpk, rfl⟩ := den_row hu0
    obtain ⟨q, hqk, rfl⟩ := den_row hu1
    have ok1 := rel.ok 0 _ p rfl hpk
    have ok2 := rel.ok 1 _ q rfl hqk
    obtain ⟨⟨a, cap, hpv, hcap, ha⟩, _⟩ := ok1
    obtain ⟨⟨a', cap', hqv, hcap', ha'⟩, _⟩ := ok2
    rw [hpv, hqv, ha h01, ha' h02]
    have hw := compareWalk W p.b p.o cap q.b q.o cap' (bytesG n get) (bytesG m get') (bytesAt_elems (rel.ok 0 _ p rfl hpk) hb1) (bytesAt_elems (rel.ok 1 _ q rfl hqk) hb2)
    rw [bytesG_len, bytesG_len] at hw
    refine Calls.mono hw fun e w' he => ?_
    obtain ⟨rfl, rfl⟩ := he
    refine ⟨_, [], rfl, rfl, ?_⟩
    rw [List.append_nil]
    refine (rel.belowStep (Below.refl _ _)).forget (fun k e he => ?_) rfl
    match k, he with
    | 0, he => simp at he; exact Or.inl he.symm
    | 1, he => simp at he; exact Or.inl he.symm
    | k + 2, he => simp at he
def lessPre (xs ys : List CV) : Prop := HashC xs ∧ HashC ys
def lessB (xs ys : List CV) : Bool := decide (Lib.compareBytes (u8s xs) (u8s ys) < 0)
def lessR (xs ys : List CV) : Bool := Op.bytesLess (u8s xs) (u8s ys)
theorem bytesG_hash (f : Nat → Int) (h : ∀ i, 0 ≤ f i ∧ f i < 256) : bytesG 32 (cutC 1 (hashC f) 0) = hashB f ∧ BytesG 32 (cutC 1 (hashC f) 0) := by
  have e : ∀ i, i < 32 → cutC 1 (hashC f) 0 i = [.int .u8 (f i)] := fun i hi => by
    have key : hashC f = (List.range 32).map fun i => CV.int .u8 (f i) := rfl
    rw [key]
    unfold cutC
    rw [Nat.mul_one, Nat.zero_add, List.drop_eq_getElem_cons (by simpa using hi)]
    simp
  refine ⟨?_, fun i hi => ?_⟩
  · unfold bytesG hashB
    refine List.map_congr_left fun i hi => ?_
    rw [e i (by simpa using hi)]
    rfl
  · have hr := h i
    refine ⟨UInt8.ofNat (f i).toNat, ?_⟩
    rw [e i hi]
    simp
    omega
def sLess : List SV → Option (Prop × SV)
  | [.agg xs, .agg ys] => some (lessPre xs ys, .c (.bool (lessB xs ys)))
  | _ => none

set_option maxRecDepth 100000 in
set_option maxHeartbeats 2000000 in
theorem lessP : Pure Tryd.prog 25 sLess := by
  have hC : CtsOk Tryd.prog [(78, appFn [] [(5, 1), (5, 1)] sCompare)] := CtsOk.cons (Fn.ct compareP) <| CtsOk.nil _
  refine Pure.of (E := tbC) (C := [(78, appFn [] [(5, 1), (5, 1)] sCompare)]) [] 0 [(1, [(0, true), (1, true), (2, false), (3, true), (4, true)])] tbC_ok hC (by kernel_rfl) Tryd.func25 rfl rfl rfl (by kernel_rfl) (by kernel_rfl) ?_ ?_
  · intro args pre r h
    unfold sLess at h
    split at h
    · cases h; rfl
    · cases h
  · intro args pre r h hp
    unfold sLess at h
    split at h
    rotate_left
    · cases h
    rename_i xs ys
    cases h
    obtain ⟨⟨f, rfl, hf⟩, ⟨g, rfl, hg⟩⟩ := hp
    unfold hashC
    unfold sCompare
    generalize hg0 : lessB = g0
    generalize hg1 : cmpPre = g1
    generalize hg2 : bytesG = g2
    generalize hg3 : cutC = g3
    generalize hA : Arith.std = A
    cbv
    subst hA hg0 hg1 hg2 hg3
    obtain ⟨e1, b1⟩ := bytesG_hash f hf
    obtain ⟨e2, b2⟩ := bytesG_hash g hg
    refine Need.mk ⟨rfl, rfl, b1, b2, by decide, by decide⟩ fun _ => ?_
    show decide (Lib.compareBytes (bytesG 32 (cutC 1 (hashC f) 0)) (bytesG 32 (cutC 1 (hashC g) 0)) < 0) = decide (Lib.compareBytes (hashB f) (hashB g) < 0)
    rw [e1, e2]

def sRLess : List SV → Option (Prop × SV)
  | [.agg xs, .agg ys] => some (lessPre xs ys, .c (.bool (lessR xs ys)))
  | _ => none

set_option maxRecDepth 100000 in
set_option maxHeartbeats 2000000 in
theorem rlessP : Pure Tryd.prog 26 sRLess := by
  have hC : CtsOk Tryd.prog [(22, appPure sText)] := CtsOk.cons (Pure.ct rtextP) <| CtsOk.nil _
  refine Pure.of (E := tbC) (C := [(22, appPure sText)]) [] 0 [(1, [(0, true), (2, true), (1, false), (3, false), (4, true), (5, true)])] tbC_ok hC (by kernel_rfl) Tryd.func26 rfl rfl rfl (by kernel_rfl) (by kernel_rfl) ?_ ?_
  · intro args pre r h
    unfold sRLess at h
    split at h
    · cases h; rfl
    · cases h
  · intro args pre r h hp
    unfold sRLess at h
    split at h
    rotate_left
    · cases h
    rename_i xs ys
    cases h
    obtain ⟨⟨f, rfl, hf⟩, ⟨g, rfl, hg⟩⟩ := hp
    unfold hashC
    unfold sText
    generalize hg0 : lessR = g0
    generalize hg1 : HashC = g1
    generalize hg2 : u8s = g2
    generalize hA : Arith.std = A
    cbv
    subst hA hg0 hg1 hg2
    exact Need.mk ⟨f, rfl, hf⟩ fun _ => Need.mk ⟨g, rfl, hg⟩ fun _ => rfl

end Go.Proofs.YtophhppklaofaaaDoor.Vx
end

section
/- The laws of the sums, by the walker: ShaCuts, ShaTells, ShaLess. -/
namespace Go.Proofs.YtophhppklaofaaaDoor.Vx
open Go.RowKit Sha
set_option linter.unusedVariables false
set_option linter.unusedSimpArgs false
/-- The texts of a slice that is written out. -/
theorem strs_cut (ls : List (List UInt8)) : StrsAt ls.length (cutC 1 (ls.map CV.str) 0) ∧ joinG ls.length (cutC 1 (ls.map CV.str) 0) = ls.flatten := by
  have e : ∀ i, (hi : i < ls.length) → cutC 1 (ls.map CV.str) 0 i = [.str ls[i]] := fun i hi => by
    unfold cutC
    rw [Nat.mul_one, Nat.zero_add, List.drop_eq_getElem_cons (by simpa using hi)]
    simp
  refine ⟨fun i hi => ⟨_, e i hi⟩, ?_⟩
  unfold joinG
  rw [List.flatMap]
  congr 1
  apply List.ext_getElem
  · simp
  · intro i h1 h2
    simp only [List.getElem_map, List.getElem_range]
    rw [e i h2]
    rfl
theorem sumPre_cut (ls : List (List UInt8)) (h : ls.flatten.length ≤ 140737488350000) (hn : ls.length ≤ 1000) : sumPre 0 1 64 (fun i => [.int .u32 (kOf i)]) 9 1 ls.length (cutC 1 (ls.map CV.str) 0) := by
  obtain ⟨h1, h2⟩ := strs_cut ls
  exact ⟨ksAt_self, rfl, rfl, h1, by omega, by rw [h2]; exact h⟩
theorem KsAt.left {gg sz n : Nat} {get : Nat → List CV} (h : KsAt gg sz n get) : hSame [.glob gg sz n get] [.glob 0 1 64 (fun i => [.int .u32 (kOf i)])] := h.same
def joinedPre (ty one n : Nat) (get : Nat → List CV) : Prop := ty = 9 ∧ one = 1 ∧ StrsAt n get ∧ n ≤ 140737488355328 ∧ (joinG n get).length ≤ 140737488350000
def sJoined : SpecF
  | [.c (.row 0)], [.elems ty one n get] => some (joinedPre ty one n get, .c (.str (joinG n get)), [.dead])
  | _, _ => none




def sFirst2 : SpecF
  | [], [.glob gg sz n get] => some (KsAt gg sz n get, .c .tt, [.dead])
  | _, _ => none

set_option maxRecDepth 100000 in
set_option maxHeartbeats 2000000 in
theorem firstP : Fn Tryd.prog 16 [0] [] sFirst2 := by
  have hC : CtsOk Tryd.prog [(17, appFn [0] [(9, 1)] sSum), (23, appPure sHex)] := CtsOk.cons (Fn.ct sumP) <| CtsOk.cons (Pure.ct hexP) <| CtsOk.nil _
  refine Fn.of (E := tbC) [] 0 [] tbC_ok hC (by kernel_rfl) Tryd.func16 rfl rfl rfl (by kernel_rfl) (by kernel_rfl) 1 5 1 ?_ ?_
  · intro args h pre r h' hs
    unfold sFirst2 at hs
    split at hs
    · cases hs; exact ⟨rfl, rfl, Nat.le_of_ble_eq_true rfl⟩
    · cases hs
  · intro args h pre r h' hs hp
    unfold sFirst2 at hs
    split at hs
    rotate_left
    · cases hs
    rename_i gg sz n get
    cases hs
    refine ⟨_, KsAt.left hp, ?_⟩
    unfold sSum sHex
    generalize hg0 : sumPre = g0
    generalize hg1 : joinG = g1
    generalize hg2 : cutC = g2
    generalize hg3 : sumI = g3
    generalize hg4 : HashC = g4
    generalize hg5 : hexL = g5
    generalize hg6 : u8s = g6
    generalize hg7 : kOf = g7
    generalize hA : Arith.std = A
    cbv
    subst hA hg0 hg1 hg2 hg3 hg4 hg5 hg6 hg7
    have e := (strs_cut [[97], [98, 99]]).2
    refine Need.mk (sumPre_cut [[97], [98, 99]] (by decide) (by decide)) fun _ => ?_
    replace e : joinG 2 (cutC 1 [CV.str [97], CV.str [98, 99]] 0) = [97, 98, 99] := e
    rw [e]
    refine Need.mk (hashC_sum _) fun _ => ?_
    refine ⟨[0], ⟨rfl, ?_, by decide, rfl, by repeat' (first | exact trivial | exact rfl | apply And.intro)⟩⟩
    show decide (hexL (hashB (sumI [97, 98, 99])) = [98, 97, 55, 56, 49, 54, 98, 102, 56, 102, 48, 49, 99, 102, 101, 97, 52, 49, 52, 49, 52, 48, 100, 101, 53, 100, 97, 101, 50, 50, 50, 51, 98, 48, 48, 51, 54, 49, 97, 51, 57, 54, 49, 55, 55, 97, 57, 99, 98, 52, 49, 48, 102, 102, 54, 49, 102, 50, 48, 48, 49, 53, 97, 100]) = true
    decide +kernel

end Go.Proofs.YtophhppklaofaaaDoor.Vx
end

section
/- The laws ShaCuts, ShaTells, ShaLess. -/
namespace Go.Proofs.YtophhppklaofaaaDoor.Vx
open Go.RowKit Sha
set_option linter.unusedVariables false
set_option linter.unusedSimpArgs false

/-- Two sums are one, byte by byte. -/
def eqH (f g : Nat → Int) : Bool := decide (f 0 = g 0) && (decide (f 1 = g 1) && (decide (f 2 = g 2) && (decide (f 3 = g 3) && (decide (f 4 = g 4) && (decide (f 5 = g 5) && (decide (f 6 = g 6) && (decide (f 7 = g 7) && (decide (f 8 = g 8) && (decide (f 9 = g 9) && (decide (f 10 = g 10) && (decide (f 11 = g 11) && (decide (f 12 = g 12) && (decide (f 13 = g 13) && (decide (f 14 = g 14) && (decide (f 15 = g 15) && (decide (f 16 = g 16) && (decide (f 17 = g 17) && (decide (f 18 = g 18) && (decide (f 19 = g 19) && (decide (f 20 = g 20) && (decide (f 21 = g 21) && (decide (f 22 = g 22) && (decide (f 23 = g 23) && (decide (f 24 = g 24) && (decide (f 25 = g 25) && (decide (f 26 = g 26) && (decide (f 27 = g 27) && (decide (f 28 = g 28) && (decide (f 29 = g 29) && (decide (f 30 = g 30) && (decide (f 31 = g 31) && true)))))))))))))))))))))))))))))))
theorem eqH_iff {f g : Nat → Int} : eqH f g = true ↔ ∀ i, i < 32 → f i = g i := by
  constructor
  · intro h i hi
    simp only [eqH, Bool.and_eq_true, decide_eq_true_iff] at h
    have : i = 0 ∨ i = 1 ∨ i = 2 ∨ i = 3 ∨ i = 4 ∨ i = 5 ∨ i = 6 ∨ i = 7 ∨ i = 8 ∨ i = 9 ∨ i = 10 ∨ i = 11 ∨ i = 12 ∨ i = 13 ∨ i = 14 ∨ i = 15 ∨ i = 16 ∨ i = 17 ∨ i = 18 ∨ i = 19 ∨ i = 20 ∨ i = 21 ∨ i = 22 ∨ i = 23 ∨ i = 24 ∨ i = 25 ∨ i = 26 ∨ i = 27 ∨ i = 28 ∨ i = 29 ∨ i = 30 ∨ i = 31 := by omega
    rcases this with rfl | rfl | rfl | rfl | rfl | rfl | rfl | rfl | rfl | rfl | rfl | rfl | rfl | rfl | rfl | rfl | rfl | rfl | rfl | rfl | rfl | rfl | rfl | rfl | rfl | rfl | rfl | rfl | rfl | rfl | rfl | rfl <;> simp only [h]
  · intro h
    simp [eqH, h]

end Go.Proofs.YtophhppklaofaaaDoor.Vx
end

section
/- The law ShaCuts, from a world in which the sums' words stand. -/
namespace Go.Proofs.YtophhppklaofaaaDoor
open Go.RowKit
set_option linter.unusedVariables false
namespace Vx
theorem relGlob {w : World} (hk : ∀ i, i < 64 → w.cell? ⟨0, i, none⟩ = some (.int .u32 (Sha.kOf i))) :
    Rel w (Gs.all []) [⟨0, undef, 0⟩] [.glob 0 1 64 (fun i => [.int .u32 (Sha.kOf i)])] w := by
  have hlt : 0 < w.heap.size := World.block_lt_of_cell? w _ (hk 0 (by decide))
  have h0 : ∀ {k : Nat} {e : Ent}, [Ent.glob 0 1 64 (fun i => [CV.int .u32 (Sha.kOf i)])][k]? = some e → k = 0 ∧ e = .glob 0 1 64 (fun i => [.int .u32 (Sha.kOf i)]) := fun {k e} h => by
    cases k with
    | zero => simp at h; exact ⟨rfl, h.symm⟩
    | succ k => simp at h
  have hf : ∀ {k c : Nat}, fp [⟨0, undef, 0⟩] [Ent.glob 0 1 64 (fun i => [CV.int .u32 (Sha.kOf i)])] k = some c → False := fun {k c} h => by
    obtain ⟨e, p, he, hp, hx⟩ := fp_some h
    obtain ⟨rfl, rfl⟩ := h0 he
    cases hx
  refine ⟨rfl, fun k e p he hp => ?_, fun k c h => (hf h).elim, fun j k c h1 h2 => (hf h1).elim, fun _ _ _ => rfl, fun k e p he hp => ?_, rfl, rfl, rfl, Nat.le_refl _⟩
  · obtain ⟨rfl, rfl⟩ := h0 he
    simp at hp
    subst hp
    refine ⟨⟨rfl, rfl⟩, fun i hi => ⟨[.int .u32 (Sha.kOf i)], rfl, fun j v hv => ?_⟩⟩
    cases j with
    | zero =>
      simp at hv
      rw [← hv]
      have := hk i hi
      simpa using this
    | succ j => simp at hv
  · obtain ⟨rfl, rfl⟩ := h0 he
    simp at hp
    subst hp
    exact fun _ => Or.inl ⟨hlt, by simp, trivial⟩
end Vx
end Go.Proofs.YtophhppklaofaaaDoor
end
