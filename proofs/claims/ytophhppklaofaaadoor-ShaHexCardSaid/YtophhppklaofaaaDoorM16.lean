/- Sums as texts, in digits, and in order, by the walker. -/
import Derived.Test.YtophhppklaofaaaDoorM15
import Derived.Test.YtophhppklaofaaaDoorShelf
section
namespace Go.Proofs.YtophhppklaofaaaDoor.Vx
open Go.RowKit Sha
set_option linter.unusedVariables false
set_option linter.unusedSimpArgs false
theorem Rel.addNilB {w0 : World} {G : Gs} {ρ : List Pl} {h : List Ent} {W : World} (r : Rel w0 G ρ h W) (e : TypeId) : Rel w0 G (ρ ++ [⟨0, .slice none 0 0, 0⟩]) (h ++ [.bytes e []]) W :=
  r.bornE (en := .bytes e []) (q0 := ⟨0, .slice none 0 0, 0⟩) ((BytesAt.nil W e).okB _) rfl (fun b hb => by simp [Ent.fp, Value.ownBlock] at hb)
    ⟨rfl, rfl, rfl, Nat.le_refl _, fun _ _ _ => rfl⟩ (fun b hb => by simp [Ent.fp, Value.ownBlock] at hb)
/-- In a slot that holds the nil slice there stands a row without bytes. -/
theorem Runs.nilTmpB {P : Program} {m : Nat} {c : Code} {st : St} {K : Ex → St → Prop} (d : Nat) (e : TypeId) (hd0 : st.t.getD d .und = .c (.val (.slice none 0 0)))
    (h : Runs P m c ⟨st.t.set d (.c (.row st.h.length)), st.h ++ [.bytes e []]⟩ K) : Runs P m c st K := by
  refine ⟨fun w0 G ρb ρ1 a W hρ r hs hd => ?_⟩
  have r1 := r.addNilB e
  have hk : ((ρb ++ ρ1) ++ [(⟨0, .slice none 0 0, 0⟩ : Pl)])[st.h.length]? = some ⟨0, .slice none 0 0, 0⟩ := by
    rw [← r.len, List.getElem?_append_right (Nat.le_refl _)]
    simp
  have hs1 := hs.app_ρ [(⟨0, .slice none 0 0, 0⟩ : Pl)]
  have hget := tmps_get hs d
  rw [hd0] at hget
  have hu : a.tmps.getD d undef = .slice none 0 0 := by
    have h2 : CV.den (ρb ++ ρ1) (.val (.slice none 0 0)) = some (a.tmps.getD d undef) := hget
    simp only [CV.den, one, if_true] at h2
    exact (Option.some.inj h2).symm
  have hlt : d < a.tmps.size := tmps_lt hs hd0 (by simp)
  have hs2 := hs1.set d (y := .c (.row st.h.length)) (v := .slice none 0 0) (by
    show CV.den _ _ = _
    simp only [CV.den, hk, one, if_true])
  have e : a.tmps.toList.set d (.slice none 0 0) = a.tmps.toList := by
    rw [Array.getD_eq_getD_getElem?, Array.getElem?_eq_getElem hlt] at hu
    simp only [Option.getD_some] at hu
    rw [← hu]
    have : a.tmps[d] = a.tmps.toList[d]'(by simpa using hlt) := by simp
    rw [this, List.set_getElem_self]
  rw [e] at hs2
  rw [List.append_assoc] at r1 hs2
  exact h.run w0 G ρb (ρ1 ++ [⟨0, .slice none 0 0, 0⟩]) a W hρ r1 hs2 hd

/-- A sum's bytes, as cells. -/
def hashC (f : Nat → Int) : List CV := [.int .u8 (f 0), .int .u8 (f 1), .int .u8 (f 2), .int .u8 (f 3), .int .u8 (f 4), .int .u8 (f 5), .int .u8 (f 6), .int .u8 (f 7), .int .u8 (f 8), .int .u8 (f 9), .int .u8 (f 10), .int .u8 (f 11), .int .u8 (f 12), .int .u8 (f 13), .int .u8 (f 14), .int .u8 (f 15), .int .u8 (f 16), .int .u8 (f 17), .int .u8 (f 18), .int .u8 (f 19), .int .u8 (f 20), .int .u8 (f 21), .int .u8 (f 22), .int .u8 (f 23), .int .u8 (f 24), .int .u8 (f 25), .int .u8 (f 26), .int .u8 (f 27), .int .u8 (f 28), .int .u8 (f 29), .int .u8 (f 30), .int .u8 (f 31)]
def HashC (xs : List CV) : Prop := ∃ f : Nat → Int, xs = hashC f ∧ ∀ i, 0 ≤ f i ∧ f i < 256
/-- Cells as bytes. -/
def u8s (xs : List CV) : List UInt8 := xs.map fun c => byteOf [c]
def hashB (f : Nat → Int) : List UInt8 := (List.range 32).map fun i => UInt8.ofNat (f i).toNat
theorem u8s_hash (f : Nat → Int) : u8s (hashC f) = hashB f := rfl
theorem hashB_len (f : Nat → Int) : (hashB f).length = 32 := by simp [hashB]
theorem hashC_sum (l : List UInt8) : HashC (hashC (sumI l)) := ⟨sumI l, rfl, sumI_range l⟩
def digs : List UInt8 := [48, 49, 50, 51, 52, 53, 54, 55, 56, 57, 97, 98, 99, 100, 101, 102]
def dig (n : Nat) : UInt8 := digs.getD n 0
def hexB (b : UInt8) : List UInt8 := [dig (b.toNat / 16), dig (b.toNat % 16)]
def hexL (l : List UInt8) : List UInt8 := l.flatMap hexB
theorem hexL_snoc (l : List UInt8) (b : UInt8) : hexL (l ++ [b]) = hexL l ++ hexB b := by simp [hexL]
theorem hexL_len : ∀ l : List UInt8, (hexL l).length = 2 * l.length
  | [] => rfl
  | b :: l => by
    show (hexB b ++ hexL l).length = _
    rw [List.length_append, hexL_len l]
    show 2 + 2 * l.length = 2 * (l.length + 1)
    omega
theorem take_hash {f : Nat → Int} {i : Nat} (h : i < 32) : (hashB f).take (i + 1) = (hashB f).take i ++ [UInt8.ofNat (f i).toNat] := by
  unfold hashB
  rw [List.take_add_one, List.getElem?_map, List.getElem?_range h]
  rfl
theorem dig_cut (n : Int) (h0 : 0 ≤ n) (h1 : n < 256) : 0 ≤ n.fdiv (2 ^ (min (4 : Int).toNat 8)) ∧ n.fdiv (2 ^ (min (4 : Int).toNat 8)) < 16 ∧ 0 ≤ bitsStd .and .u8 n 15 ∧ bitsStd .and .u8 n 15 < 16 ∧
    [UInt8.ofNat (((digs.getD (n.fdiv (2 ^ (min (4 : Int).toNat 8))).toNat 0).toNat : Int)).toNat, UInt8.ofNat (((digs.getD (bitsStd .and .u8 n 15).toNat 0).toNat : Int)).toNat] = hexB (UInt8.ofNat n.toNat) := by
  have key : ∀ j : Fin 256, 0 ≤ (j.1 : Int).fdiv (2 ^ (min (4 : Int).toNat 8)) ∧ (j.1 : Int).fdiv (2 ^ (min (4 : Int).toNat 8)) < 16 ∧ 0 ≤ bitsStd .and .u8 (j.1 : Int) 15 ∧ bitsStd .and .u8 (j.1 : Int) 15 < 16 ∧
    [UInt8.ofNat (((digs.getD ((j.1 : Int).fdiv (2 ^ (min (4 : Int).toNat 8))).toNat 0).toNat : Int)).toNat, UInt8.ofNat (((digs.getD (bitsStd .and .u8 (j.1 : Int) 15).toNat 0).toNat : Int)).toNat] = hexB (UInt8.ofNat (j.1 : Int).toNat) := by decide +kernel
  have := key ⟨n.toNat, by omega⟩
  simp only at this
  rw [show ((n.toNat : Nat) : Int) = n by omega] at this
  exact this
theorem bytes_two (a b : UInt8) : Arith.std.bytesOk [(a.toNat : Int), (b.toNat : Int)] := fun n hn => by
  have ha := a.toNat_lt
  have hb := b.toNat_lt
  simp only [List.mem_cons, List.not_mem_nil, or_false] at hn
  rcases hn with rfl | rfl <;> omega
structure LHex (f : Nat → Int) where
  i : Int
  l : List UInt8
  h0 : 0 ≤ i
  h1 : i ≤ 32
  h2 : l = hexL ((hashB f).take i.toNat)
def sText : List SV → Option (Prop × SV)
  | [.agg xs] => some (HashC xs, .c (.str (u8s xs)))
  | _ => none


set_option maxRecDepth 100000 in
set_option maxHeartbeats 2000000 in
theorem rtextP : Pure Tryd.prog 22 sText := by
  have hC : CtsOk Tryd.prog [] := CtsOk.nil _
  refine Pure.of (E := tbY) (C := []) [] 0 [] tbY_ok hC (by kernel_rfl) Tryd.func22 rfl rfl rfl (by kernel_rfl) (by kernel_rfl) ?_ ?_
  · intro args pre r h
    unfold sText at h
    split at h
    · cases h; rfl
    · cases h
  · intro args pre r h hp
    unfold sText at h
    split at h
    rotate_left
    · cases h
    rename_i xs
    cases h
    obtain ⟨f, rfl, hf⟩ := hp
    unfold hashC
    generalize hg0 : u8s = g0
    generalize hL : lft Tryd.prog _ = L
    generalize hA : Arith.std = A
    cbv
    subst hA hg0 hL
    show Runs Tryd.prog 0 (.loop _) _ _
    refine loop_ruleR (N := env (lft Tryd.prog 0) 0 .std tbY [] []) rfl tbY_ok hC (fun c st K _ h => h) (by kernel_rfl) [] (X := LFill 32 f (fun _ => 0))
      (S := fun x => ⟨[.any, .c (.ptr 0 0), .any, .c (.sl 1 0 32 32), .c (.int .i64 x.i)] ++ List.replicate 13 .any, [.cells 24 [.int .u8 (f 0), .int .u8 (f 1), .int .u8 (f 2), .int .u8 (f 3), .int .u8 (f 4), .int .u8 (f 5), .int .u8 (f 6), .int .u8 (f 7), .int .u8 (f 8), .int .u8 (f 9), .int .u8 (f 10), .int .u8 (f 11), .int .u8 (f 12), .int .u8 (f 13), .int .u8 (f 14), .int .u8 (f 15), .int .u8 (f 16), .int .u8 (f 17), .int .u8 (f 18), .int .u8 (f 19), .int .u8 (f 20), .int .u8 (f 21), .int .u8 (f 22), .int .u8 (f 23), .int .u8 (f 24), .int .u8 (f 25), .int .u8 (f 26), .int .u8 (f 27), .int .u8 (f 28), .int .u8 (f 29), .int .u8 (f 30), .int .u8 (f 31)], .cells 5 [.int .u8 (x.g 0), .int .u8 (x.g 1), .int .u8 (x.g 2), .int .u8 (x.g 3), .int .u8 (x.g 4), .int .u8 (x.g 5), .int .u8 (x.g 6), .int .u8 (x.g 7), .int .u8 (x.g 8), .int .u8 (x.g 9), .int .u8 (x.g 10), .int .u8 (x.g 11), .int .u8 (x.g 12), .int .u8 (x.g 13), .int .u8 (x.g 14), .int .u8 (x.g 15), .int .u8 (x.g 16), .int .u8 (x.g 17), .int .u8 (x.g 18), .int .u8 (x.g 19), .int .u8 (x.g 20), .int .u8 (x.g 21), .int .u8 (x.g 22), .int .u8 (x.g 23), .int .u8 (x.g 24), .int .u8 (x.g 25), .int .u8 (x.g 26), .int .u8 (x.g 27), .int .u8 (x.g 28), .int .u8 (x.g 29), .int .u8 (x.g 30), .int .u8 (x.g 31)]]⟩) (μ := fun x => 32 - x.i.toNat) ⟨0, (fun _ => 0), by omega, by omega, fun j hj => absurd hj (by omega), fun j _ _ => rfl⟩ (by kernel_rfl) [0, 1] ?_ ?_
    · refine ⟨rfl, by decide, ?_, ?_⟩ <;> repeat' (first | exact trivial | exact rfl | apply And.intro)
    rintro ⟨i, g, hi0, hin, hlo, hhi⟩
    generalize hg0 : u8s = g0
    generalize hL : lft Tryd.prog _ = L
    generalize hA : Arith.std = A
    cbv
    subst hA hg0 hL
    replace hi0 : 0 ≤ i := hi0
    replace hin : i ≤ ((32 : Nat) : Int) := hin
    replace hlo : ∀ j : Nat, (j : Int) < i → g j = f j := hlo
    replace hhi : ∀ j : Nat, i ≤ (j : Int) → j < 32 → g j = (fun _ => 0) j := hhi
    refine Ife.mk (fun hlt => ?_) (fun hlt => ?_)
    · replace hlt : i < (32 : Int) := of_decide_eq_true (p := i < (32 : Int)) hlt
      repeat refine Need.mk (by first | exact trivial | (simp only [Arith.std, fitStd]; omega) | (simp [Arith.std, fitStd]; omega)) fun _ => ?_
      refine ⟨⟨i + 1, fun j => Arith.std.upd (i.toNat) (j) ?fv (g j), by omega, by omega, ?h2, ?h3⟩, [0, 1], (by show 32 - (i + 1).toNat < 32 - i.toNat; omega), ?st⟩
      case st => refine ⟨rfl, by decide, ?_, ?_⟩ <;> repeat' (first | exact trivial | exact rfl | apply And.intro)
      case h3 =>
        intro j hj hj2
        show (if i.toNat = j then _ else g j) = _
        rw [if_neg (by omega)]
        exact hhi j (by omega) hj2
      case h2 =>
        intro j hj
        show (if i.toNat = j then _ else g j) = _
        by_cases hji : i.toNat = j
        · rw [if_pos hji]
          obtain rfl : j = i.toNat := by omega
          clear hji hj
          show Arith.std.sel i.toNat [f 0, f 1, f 2, f 3, f 4, f 5, f 6, f 7, f 8, f 9, f 10, f 11, f 12, f 13, f 14, f 15, f 16, f 17, f 18, f 19, f 20, f 21, f 22, f 23, f 24, f 25, f 26, f 27, f 28, f 29, f 30, f 31] = f i.toNat
          exact sel_range f 32 _ (by omega)
        · rw [if_neg hji]
          exact hlo j (by omega)
    · replace hlt : ¬ i < (32 : Int) := of_decide_eq_false (p := i < (32 : Int)) hlt
      have hq : ∀ k : Nat, k < 32 → g k = f k := fun k hk => hlo k (by omega)
      show [UInt8.ofNat (g 0).toNat, UInt8.ofNat (g 1).toNat, UInt8.ofNat (g 2).toNat, UInt8.ofNat (g 3).toNat, UInt8.ofNat (g 4).toNat, UInt8.ofNat (g 5).toNat, UInt8.ofNat (g 6).toNat, UInt8.ofNat (g 7).toNat, UInt8.ofNat (g 8).toNat, UInt8.ofNat (g 9).toNat, UInt8.ofNat (g 10).toNat, UInt8.ofNat (g 11).toNat, UInt8.ofNat (g 12).toNat, UInt8.ofNat (g 13).toNat, UInt8.ofNat (g 14).toNat, UInt8.ofNat (g 15).toNat, UInt8.ofNat (g 16).toNat, UInt8.ofNat (g 17).toNat, UInt8.ofNat (g 18).toNat, UInt8.ofNat (g 19).toNat, UInt8.ofNat (g 20).toNat, UInt8.ofNat (g 21).toNat, UInt8.ofNat (g 22).toNat, UInt8.ofNat (g 23).toNat, UInt8.ofNat (g 24).toNat, UInt8.ofNat (g 25).toNat, UInt8.ofNat (g 26).toNat, UInt8.ofNat (g 27).toNat, UInt8.ofNat (g 28).toNat, UInt8.ofNat (g 29).toNat, UInt8.ofNat (g 30).toNat, UInt8.ofNat (g 31).toNat] = u8s (hashC f)
      rw [hq 0 (by decide), hq 1 (by decide), hq 2 (by decide), hq 3 (by decide), hq 4 (by decide), hq 5 (by decide), hq 6 (by decide), hq 7 (by decide), hq 8 (by decide), hq 9 (by decide), hq 10 (by decide), hq 11 (by decide), hq 12 (by decide), hq 13 (by decide), hq 14 (by decide), hq 15 (by decide), hq 16 (by decide), hq 17 (by decide), hq 18 (by decide), hq 19 (by decide), hq 20 (by decide), hq 21 (by decide), hq 22 (by decide), hq 23 (by decide), hq 24 (by decide), hq 25 (by decide), hq 26 (by decide), hq 27 (by decide), hq 28 (by decide), hq 29 (by decide), hq 30 (by decide), hq 31 (by decide)]
      rfl

def sHex : List SV → Option (Prop × SV)
  | [.agg xs] => some (HashC xs, .c (.str (hexL (u8s xs))))
  | _ => none

set_option maxRecDepth 100000 in
set_option maxHeartbeats 2000000 in
theorem hexP : Pure Tryd.prog 23 sHex := by
  have hC : CtsOk Tryd.prog [] := CtsOk.nil _
  refine Pure.of (E := tbC) (C := []) [] 0 [(5, [(2001, false), (2002, false), (0, true), (1, true), (2, true), (3, true), (4, true), (5, true), (6, true), (7, false), (8, false), (9, true)])] tbC_ok hC (by kernel_rfl) Tryd.func23 rfl rfl rfl (by kernel_rfl) (by kernel_rfl) ?_ ?_
  · intro args pre r h
    unfold sHex at h
    split at h
    · cases h; rfl
    · cases h
  · intro args pre r h hp
    unfold sHex at h
    split at h
    rotate_left
    · cases h
    rename_i xs
    cases h
    obtain ⟨f, rfl, hf⟩ := hp
    rw [u8s_hash]
    unfold hashC
    generalize hg0 : hexL = g0
    generalize hg1 : hashB = g1
    generalize hL : lft Tryd.prog _ = L
    generalize hA : Arith.std = A
    cbv
    subst hA hg0 hg1 hL
    refine Runs.nilTmpB 3 5 rfl ?_
    show Runs Tryd.prog 0 (.loop _) _ _
    refine loop_ruleR (N := env (lft Tryd.prog 0) 0 .std tbY [] [(5, [(2001, false), (2002, false), (0, true), (1, true), (2, true), (3, true), (4, true), (5, true), (6, true), (7, false), (8, false), (9, true)])]) rfl tbY_ok hC (fun c st K _ h => h) (by kernel_rfl) [1] (X := LHex f)
      (S := fun x => ⟨[.any, .any, .any, .c (.row 1), .any, .any, .agg [.int .u8 (f 0), .int .u8 (f 1), .int .u8 (f 2), .int .u8 (f 3), .int .u8 (f 4), .int .u8 (f 5), .int .u8 (f 6), .int .u8 (f 7), .int .u8 (f 8), .int .u8 (f 9), .int .u8 (f 10), .int .u8 (f 11), .int .u8 (f 12), .int .u8 (f 13), .int .u8 (f 14), .int .u8 (f 15), .int .u8 (f 16), .int .u8 (f 17), .int .u8 (f 18), .int .u8 (f 19), .int .u8 (f 20), .int .u8 (f 21), .int .u8 (f 22), .int .u8 (f 23), .int .u8 (f 24), .int .u8 (f 25), .int .u8 (f 26), .int .u8 (f 27), .int .u8 (f 28), .int .u8 (f 29), .int .u8 (f 30), .int .u8 (f 31)], .c (.int .i64 x.i)] ++ List.replicate 14 .any, [.cells 24 [.int .u8 (f 0), .int .u8 (f 1), .int .u8 (f 2), .int .u8 (f 3), .int .u8 (f 4), .int .u8 (f 5), .int .u8 (f 6), .int .u8 (f 7), .int .u8 (f 8), .int .u8 (f 9), .int .u8 (f 10), .int .u8 (f 11), .int .u8 (f 12), .int .u8 (f 13), .int .u8 (f 14), .int .u8 (f 15), .int .u8 (f 16), .int .u8 (f 17), .int .u8 (f 18), .int .u8 (f 19), .int .u8 (f 20), .int .u8 (f 21), .int .u8 (f 22), .int .u8 (f 23), .int .u8 (f 24), .int .u8 (f 25), .int .u8 (f 26), .int .u8 (f 27), .int .u8 (f 28), .int .u8 (f 29), .int .u8 (f 30), .int .u8 (f 31)], .bytes 5 x.l]⟩) (μ := fun x => 32 - x.i.toNat) ⟨0, [], by omega, by omega, rfl⟩ (by kernel_rfl) [0, 1] ?_ ?_
    · refine ⟨rfl, by decide, ?_, ?_⟩ <;> repeat' (first | exact trivial | exact rfl | apply And.intro)
    rintro ⟨i, l, hi0, hin, hl⟩
    generalize hg0 : hexL = g0
    generalize hg1 : hashB = g1
    generalize hL : lft Tryd.prog _ = L
    generalize hA : Arith.std = A
    cbv
    subst hA hg0 hg1 hL
    replace hi0 : 0 ≤ i := hi0
    replace hin : i ≤ 32 := hin
    replace hl : l = hexL ((hashB f).take i.toNat) := hl
    have hll : l.length ≤ 64 := by rw [hl, hexL_len, List.length_take]; omega
    refine Ife.mk (fun hlt => ?_) (fun hlt => ?_)
    · replace hlt : i < 32 := of_decide_eq_true (p := i < 32) hlt
      have hsel : Arith.std.sel i.toNat [f 0, f 1, f 2, f 3, f 4, f 5, f 6, f 7, f 8, f 9, f 10, f 11, f 12, f 13, f 14, f 15, f 16, f 17, f 18, f 19, f 20, f 21, f 22, f 23, f 24, f 25, f 26, f 27, f 28, f 29, f 30, f 31] = f i.toNat := sel_range f 32 _ (by omega)
      have hmem := hf i.toNat
      have hts := take_hash (f := f) (i := i.toNat) (by omega)
      obtain ⟨d1, d2, d3, d4, d5⟩ := dig_cut (f i.toNat) hmem.1 hmem.2
      rw [← hsel] at d1 d2 d3 d4
      refine Need.mk (by first | exact trivial | (simp only [Arith.std, fitStd]; omega) | (simp [Arith.std, fitStd]; omega)) fun _ => ?_
      refine Need.mk (by first | exact trivial | (simp only [Arith.std, fitStd]; omega) | (simp [Arith.std, fitStd]; omega)) fun _ => ?_
      refine Need.mk ⟨d1, d2⟩ fun _ => Need.mk ⟨d3, d4⟩ fun _ => ?_
      refine Need.mk (bytes_two _ _) fun _ => Need.mk (by show l.length + 2 ≤ 140737488355328; omega) fun _ => ?_
      refine Need.mk (by first | exact trivial | (simp only [Arith.std, fitStd]; omega) | (simp [Arith.std, fitStd]; omega)) fun _ => ?_
      refine ⟨⟨i + 1, l ++ ?lv, by omega, by omega, ?h2⟩, [0, 3], (by show 32 - (i + 1).toNat < 32 - i.toNat; omega), ?st⟩
      case st => refine ⟨rfl, by decide, ?_, ?_⟩ <;> repeat' (first | exact trivial | exact rfl | apply And.intro)
      case h2 =>
        rw [show (i + 1).toNat = i.toNat + 1 by omega, hts, hexL_snoc, ← hl, ← d5, ← hsel]
        rfl
    · replace hlt : ¬ i < 32 := of_decide_eq_false (p := i < 32) hlt
      show l = hexL (hashB f)
      rw [hl, List.take_of_length_le (by rw [hashB_len]; omega)]

end Go.Proofs.YtophhppklaofaaaDoor.Vx
end

section
/- Texts in digits; sums in order, by the walker. -/
namespace Go.Proofs.YtophhppklaofaaaDoor.Vx
open Go.RowKit Sha
set_option linter.unusedVariables false
set_option linter.unusedSimpArgs false
def digPre (n : Int) : Prop := 0 ≤ n ∧ n < 16
def digI (n : Int) : Int := ((dig n.toNat).toNat : Int)
theorem dig_code (n : Int) (h0 : 0 ≤ n) (h1 : n < 16) : (n < 10 → IntKind.wrap .u8 (48 + n) = digI n) ∧ (¬ n < 10 → IntKind.wrap .u8 (97 + n - 10) = digI n) := by
  have key : ∀ j : Fin 16, ((j.1 : Int) < 10 → IntKind.wrap .u8 (48 + (j.1 : Int)) = digI (j.1 : Int)) ∧ (¬ (j.1 : Int) < 10 → IntKind.wrap .u8 (97 + (j.1 : Int) - 10) = digI (j.1 : Int)) := by decide +kernel
  have := key ⟨n.toNat, by omega⟩
  simp only at this
  rw [show ((n.toNat : Nat) : Int) = n by omega] at this
  exact this
def rhexPre (s : List UInt8) : Prop := s.length ≤ 1000000
def sDigit : List SV → Option (Prop × SV)
  | [.c (.int .i64 n)] => some (digPre n, .c (.int .u8 (digI n)))
  | _ => none

set_option maxRecDepth 100000 in
set_option maxHeartbeats 400000 in
theorem digitP : Pure Tryd.prog 77 sDigit := by
  refine Pure.of (E := tbC) (C := []) [] 0 [] tbC_ok (CtsOk.nil _) (by kernel_rfl) Tryd.func77 rfl rfl rfl (by kernel_rfl) (by kernel_rfl) ?_ ?_
  · intro args pre r h
    unfold sDigit at h
    split at h
    · cases h; first | rfl | exact ⟨rfl, rfl⟩
    · cases h
  · intro args pre r h hp
    unfold sDigit at h
    split at h
    rotate_left
    · cases h
    rename_i n
    cases h
    generalize hg0 : digI = g0
    generalize hg1 : digPre = g1
    generalize hA : Arith.std = A
    cbv
    subst hA hg0 hg1
    obtain ⟨h0, h1⟩ := hp
    obtain ⟨d1, d2⟩ := dig_code n h0 h1
    refine Ife.mk (fun h => ?_) (fun h => ?_)
    · refine Need.mk (by show fitStd .i64 (48 + n); unfold fitStd; omega) fun _ => ?_
      exact d1 (of_decide_eq_true (p := n < 10) h)
    · refine Need.mk (by show fitStd .i64 (97 + n); unfold fitStd; omega) fun _ => Need.mk (by show fitStd .i64 (97 + n - 10); unfold fitStd; omega) fun _ => ?_
      exact d2 (of_decide_eq_false (p := n < 10) h)








end Go.Proofs.YtophhppklaofaaaDoor.Vx
end

section
/- Digits read back, by the walker. -/
namespace Go.Proofs.YtophhppklaofaaaDoor.Vx
open Go.RowKit Sha
set_option linter.unusedVariables false
set_option linter.unusedSimpArgs false
/-- Where a byte stands in a text. -/
def ixB (l : List UInt8) (c : Int) : Int := Lib.indexByte l c.toNat.toUInt8
/-- The value of the digit at a place. -/
def hv (s : List UInt8) (k : Nat) : Int := ixB digs ((s.getD k 0).toNat : Int)
/-- What the first digits lay at a byte. -/
def pref (s : List UInt8) (i j : Nat) : Int := if 2 * j + 1 < i then 16 * hv s (2 * j) + hv s (2 * j + 1) else if 2 * j < i then hv s (2 * j) else 0
def hexOk (s : List UInt8) : Bool := (List.range s.length).all fun k => decide (0 ≤ hv s k)
def unE (s : List UInt8) : Int := if s.length < 64 then 2 else if 64 < s.length then 4 else if hexOk s then 0 else 3
def unF (s : List UInt8) (j : Nat) : Int := if unE s = 0 then pref s 64 j else 0
theorem hv_range (s : List UInt8) (k : Nat) : -1 ≤ hv s k ∧ hv s k < 16 := by
  have key : ∀ j : Fin 256, -1 ≤ ixB digs (j.1 : Int) ∧ ixB digs (j.1 : Int) < 16 := by decide +kernel
  exact key ⟨(s.getD k 0).toNat, (s.getD k 0).toNat_lt⟩
theorem hexOk_iff {s : List UInt8} : hexOk s = true ↔ ∀ k, k < s.length → 0 ≤ hv s k := by
  unfold hexOk
  rw [List.all_eq_true]
  exact ⟨fun h k hk => of_decide_eq_true (h k (List.mem_range.2 hk)), fun h k hk => decide_eq_true (h k (List.mem_range.1 hk))⟩
theorem zeroF {s : List UInt8} (h : unE s ≠ 0) : unF s = fun _ => 0 := by
  funext j
  unfold unF
  rw [if_neg h]
theorem half_wrap (i : Int) (h0 : 0 ≤ i) (h1 : i < 64) : IntKind.wrap .i64 (i.tdiv 2) = ((i.toNat / 2 : Nat) : Int) := by
  have key : ∀ j : Fin 64, IntKind.wrap .i64 ((j.1 : Int).tdiv 2) = ((j.1 / 2 : Nat) : Int) := by decide +kernel
  have := key ⟨i.toNat, by omega⟩
  simp only at this
  rw [show ((i.toNat : Nat) : Int) = i by omega] at this
  exact this
theorem nib (x v : Int) (hx : 0 ≤ x ∧ x < 16) (hv : 0 ≤ v ∧ v < 16) : bitsStd .or .u8 (IntKind.wrap .u8 (x * 2 ^ (min (4 : Int).toNat 8))) (IntKind.wrap .u8 v) = 16 * x + v := by
  have key : ∀ a b : Fin 16, bitsStd .or .u8 (IntKind.wrap .u8 ((a.1 : Int) * 2 ^ (min (4 : Int).toNat 8))) (IntKind.wrap .u8 (b.1 : Int)) = 16 * (a.1 : Int) + (b.1 : Int) := by decide +kernel
  have := key ⟨x.toNat, by omega⟩ ⟨v.toNat, by omega⟩
  simp only at this
  rw [show ((x.toNat : Nat) : Int) = x by omega, show ((v.toNat : Nat) : Int) = v by omega] at this
  exact this
theorem pref_step (s : List UInt8) (i j : Nat) (hj : i / 2 = j) (hb : i - 1 < i → 0 ≤ hv s (i - 1)) (hn : 0 ≤ hv s i) : bitsStd .or .u8 (IntKind.wrap .u8 (pref s i j * 2 ^ (min (4 : Int).toNat 8))) (IntKind.wrap .u8 (hv s i)) = pref s (i + 1) j := by
  have h1 := hv_range s i
  have h2 := hv_range s (i - 1)
  rcases Nat.mod_two_eq_zero_or_one i with h | h
  · have e1 : pref s i j = 0 := by unfold pref; rw [if_neg (by omega), if_neg (by omega)]
    have e2 : pref s (i + 1) j = hv s i := by unfold pref; rw [if_neg (by omega), if_pos (by omega), show 2 * j = i by omega]
    rw [e1, e2, nib 0 _ (by decide) ⟨hn, h1.2⟩]
    omega
  · have hb := hb (by omega)
    have e1 : pref s i j = hv s (i - 1) := by unfold pref; rw [if_neg (by omega), if_pos (by omega), show 2 * j = i - 1 by omega]
    have e2 : pref s (i + 1) j = 16 * hv s (i - 1) + hv s i := by unfold pref; rw [if_pos (by omega), show 2 * j = i - 1 by omega, show i - 1 + 1 = i by omega]
    rw [e1, e2, nib _ _ ⟨hb, h2.2⟩ ⟨hn, h1.2⟩]
theorem pref_off (s : List UInt8) (i j : Nat) (hj : ¬ i / 2 = j) : pref s i j = pref s (i + 1) j := by
  unfold pref
  by_cases h : 2 * j + 1 < i
  · rw [if_pos h, if_pos (by omega)]
  · rw [if_neg h, if_neg (by omega)]
    rw [if_neg (by omega), if_neg (by omega)]
/-- Digits read so far. -/
structure LUn (s : List UInt8) where
  i : Int
  g : Nat → Int
  h0 : 0 ≤ i
  h1 : i ≤ (s.length : Int)
  h2 : ∀ k, k < i.toNat → 0 ≤ hv s k
  h3 : ∀ j, j < 32 → g j = pref s i.toNat j
def sIndexB : List SV → Option (Prop × SV)
  | [.c (.str l), .c (.int .u8 c)] => some (True, .c (.int .i64 (ixB l c)))
  | _ => none

theorem indexBP : Pure Tryd.prog 79 sIndexB := by
  refine ⟨by kernel_rfl, fun args pre r h hp us hs W => ?_⟩
  unfold sIndexB at h
  split at h
  rotate_left
  · cases h
  rename_i l c
  cases h
  obtain ⟨u0, us1, rfl, hu0, u1, us2, rfl, hu1, rfl⟩ := hs
  obtain rfl : .string ⟨l.toArray⟩ = u0 := Option.some.inj hu0
  obtain rfl : .int .u8 c = u1 := Option.some.inj hu1
  refine Calls.mono (Tryd.strings_IndexByte ⟨l.toArray⟩ c W) fun e W' he => ?_
  obtain ⟨rfl, rfl⟩ := he
  exact ⟨_, rfl, rfl, Below.refl _ _⟩
def sFromHex : List SV → Option (Prop × SV)
  | [.c (.str s)] => some (s.length ≤ 140737488355328, .tup [(none, hashC (unF s)), (some (.int .i64 (unE s)), [])])
  | _ => none

set_option maxRecDepth 100000 in
set_option maxHeartbeats 2000000 in
theorem fromHexP : Pure Tryd.prog 27 sFromHex := by
  have hC : CtsOk Tryd.prog [(79, appPure sIndexB)] := CtsOk.cons (Pure.ct indexBP) <| CtsOk.nil _
  refine Pure.of (E := tbY) (C := [(79, appPure sIndexB)]) [] 0 [] tbY_ok hC (by kernel_rfl) Tryd.func27 rfl rfl rfl (by kernel_rfl) (by kernel_rfl) ?_ ?_
  · intro args pre r h
    unfold sFromHex at h
    split at h
    · cases h; rfl
    · cases h
  · intro args pre r h hp
    unfold sFromHex at h
    split at h
    rotate_left
    · cases h
    rename_i s
    cases h
    have hs : s.length ≤ 140737488355328 := hp
    unfold sIndexB
    generalize hg0 : hashC = g0
    generalize hg1 : unF = g1
    generalize hg2 : unE = g2
    generalize hg3 : ixB = g3
    generalize hg4 : (List.length : List UInt8 → Nat) = g4
    generalize hL : lft Tryd.prog _ = L
    generalize hA : Arith.std = A
    cbv
    subst hA hg0 hg1 hg2 hg3 hg4 hL
    refine Ife.mk (fun h => ?_) (fun h => ?_)
    · have h : s.length < 64 := by have := of_decide_eq_true (p := (s.length : Int) < 64) h; omega
      have e : unE s = 2 := by unfold unE; rw [if_pos h]
      refine ⟨?_, e.symm, trivial⟩
      rw [zeroF (by rw [e]; decide)]
      repeat' (first | exact trivial | exact rfl | apply And.intro)
    refine Ife.mk (fun h2 => ?_) (fun h2 => ?_)
    · have h2 : 64 < s.length := by have := of_decide_eq_true (p := (64 : Int) < (s.length : Int)) h2; omega
      have e : unE s = 4 := by unfold unE; rw [if_neg (by omega), if_pos h2]
      refine ⟨?_, e.symm, trivial⟩
      rw [zeroF (by rw [e]; decide)]
      repeat' (first | exact trivial | exact rfl | apply And.intro)
    have hl : s.length = 64 := by
      have := of_decide_eq_false (p := (s.length : Int) < 64) h
      have := of_decide_eq_false (p := (64 : Int) < (s.length : Int)) h2
      omega
    show Runs Tryd.prog 0 (.loop _) _ _
    refine loop_ruleR (N := env (lft Tryd.prog 0) 0 .std tbY [(79, appPure sIndexB)] []) rfl tbY_ok hC (fun c st K _ h => h) (by kernel_rfl) [] (X := LUn s)
      (S := fun x => ⟨[.c (.str s), .any, .c (.ptr 0 0), .any, .c (.ptr 1 0)] ++ List.replicate 13 .any ++ [.c (.int .i64 (s.length : Int)), .c (.int .i64 x.i)] ++ List.replicate 22 .any, [.cells 24 [.int .u8 0, .int .u8 0, .int .u8 0, .int .u8 0, .int .u8 0, .int .u8 0, .int .u8 0, .int .u8 0, .int .u8 0, .int .u8 0, .int .u8 0, .int .u8 0, .int .u8 0, .int .u8 0, .int .u8 0, .int .u8 0, .int .u8 0, .int .u8 0, .int .u8 0, .int .u8 0, .int .u8 0, .int .u8 0, .int .u8 0, .int .u8 0, .int .u8 0, .int .u8 0, .int .u8 0, .int .u8 0, .int .u8 0, .int .u8 0, .int .u8 0, .int .u8 0], .cells 24 [.int .u8 (x.g 0), .int .u8 (x.g 1), .int .u8 (x.g 2), .int .u8 (x.g 3), .int .u8 (x.g 4), .int .u8 (x.g 5), .int .u8 (x.g 6), .int .u8 (x.g 7), .int .u8 (x.g 8), .int .u8 (x.g 9), .int .u8 (x.g 10), .int .u8 (x.g 11), .int .u8 (x.g 12), .int .u8 (x.g 13), .int .u8 (x.g 14), .int .u8 (x.g 15), .int .u8 (x.g 16), .int .u8 (x.g 17), .int .u8 (x.g 18), .int .u8 (x.g 19), .int .u8 (x.g 20), .int .u8 (x.g 21), .int .u8 (x.g 22), .int .u8 (x.g 23), .int .u8 (x.g 24), .int .u8 (x.g 25), .int .u8 (x.g 26), .int .u8 (x.g 27), .int .u8 (x.g 28), .int .u8 (x.g 29), .int .u8 (x.g 30), .int .u8 (x.g 31)]]⟩) (μ := fun x => s.length - x.i.toNat) ⟨0, fun _ => 0, by omega, by omega, fun k hk => absurd hk (by show ¬ k < (0 : Int).toNat; omega), fun j _ => (by show (0 : Int) = pref s (0 : Int).toNat j; unfold pref; rw [if_neg (by omega), if_neg (by omega)])⟩ (by kernel_rfl) [0, 1] ?_ ?_
    · refine ⟨rfl, by decide, ?_, ?_⟩ <;> repeat' (first | exact trivial | exact rfl | apply And.intro)
    rintro ⟨i, g, hi0, hin, hv0, hg⟩
    unfold sIndexB
    generalize hg0 : hashC = g0
    generalize hg1 : unF = g1
    generalize hg2 : unE = g2
    generalize hg3 : ixB = g3
    generalize hg4 : (List.length : List UInt8 → Nat) = g4
    generalize hL : lft Tryd.prog _ = L
    generalize hA : Arith.std = A
    cbv
    subst hA hg0 hg1 hg2 hg3 hg4 hL
    replace hi0 : 0 ≤ i := hi0
    replace hin : i ≤ @Nat.cast Int instNatCastInt s.length := hin
    refine Ife.mk (fun hlt => ?_) (fun hlt => ?_)
    · replace hlt : i < @Nat.cast Int instNatCastInt s.length := of_decide_eq_true (p := i < (s.length : Int)) hlt
      have hr := hv_range s i.toNat
      refine Need.mk (by show 0 ≤ i ∧ i < (s.length : Int); omega) fun _ => Need.mk trivial fun _ => ?_
      refine Ife.mk (fun hn => ?_) (fun hn => ?_)
      · have hn : hv s i.toNat < 0 := of_decide_eq_true (p := hv s i.toNat < 0) hn
        have e : unE s = 3 := by
          unfold unE
          rw [if_neg (by omega), if_neg (by omega), if_neg]
          intro h3
          have := hexOk_iff.1 h3 i.toNat (by omega)
          omega
        refine ⟨?_, e.symm, trivial⟩
        rw [zeroF (by rw [e]; decide)]
        repeat' (first | exact trivial | exact rfl | apply And.intro)
      have hn : 0 ≤ hv s i.toNat := by have := of_decide_eq_false (p := hv s i.toNat < 0) hn; omega
      have hq := half_wrap i hi0 (by omega)
      refine Need.mk (by show (2 : Int) ≠ 0; decide) fun _ => Need.mk (by show (2 : Int) ≠ 0; decide) fun _ => ?_
      refine Need.mk (by show 0 ≤ IntKind.wrap .i64 (i.tdiv 2) ∧ IntKind.wrap .i64 (i.tdiv 2) < ((32 : Nat) : Int); rw [hq]; omega) fun _ => Need.mk (by show (IntKind.wrap .i64 (i.tdiv 2)).toNat < 32; rw [hq]; omega) fun _ => Need.mk (by show 0 ≤ (4 : Int); decide) fun _ => Need.mk (by show 0 ≤ IntKind.wrap .i64 (i.tdiv 2) ∧ IntKind.wrap .i64 (i.tdiv 2) < ((32 : Nat) : Int); rw [hq]; omega) fun _ => Need.mk (by show (IntKind.wrap .i64 (i.tdiv 2)).toNat < 32; rw [hq]; omega) fun _ => ?_
      refine Need.mk (by first | exact trivial | (simp only [Arith.std, fitStd]; omega) | (simp [Arith.std, fitStd]; omega)) fun _ => ?_
      refine ⟨⟨i + 1, fun j => Arith.std.upd (Arith.std.natOf (Arith.std.wrap .i64 (Arith.std.quo i 2))) j ?fv (g j), by omega, by omega, ?h2, ?h3⟩, [0, 1], (by show s.length - (i + 1).toNat < s.length - i.toNat; omega), ?st⟩
      case st => refine ⟨rfl, by decide, ?_, ?_⟩ <;> repeat' (first | exact trivial | exact rfl | apply And.intro)
      case h2 =>
        intro k hk
        by_cases hki : k = i.toNat
        · rw [hki]; exact hn
        · exact hv0 k (by omega)
      case h3 =>
        intro j hj
        show (if (IntKind.wrap .i64 (i.tdiv 2)).toNat = j then bitsStd .or .u8 (IntKind.wrap .u8 (Arith.std.sel (IntKind.wrap .i64 (i.tdiv 2)).toNat [g 0, g 1, g 2, g 3, g 4, g 5, g 6, g 7, g 8, g 9, g 10, g 11, g 12, g 13, g 14, g 15, g 16, g 17, g 18, g 19, g 20, g 21, g 22, g 23, g 24, g 25, g 26, g 27, g 28, g 29, g 30, g 31] * 2 ^ (min (4 : Int).toNat 8))) (IntKind.wrap .u8 (hv s i.toNat)) else g j) = pref s (i + 1).toNat j
        rw [hq, show ((i.toNat / 2 : Nat) : Int).toNat = i.toNat / 2 by omega, show (i + 1).toNat = i.toNat + 1 by omega]
        by_cases hj2 : i.toNat / 2 = j
        · rw [if_pos hj2, hj2, show Arith.std.sel j [g 0, g 1, g 2, g 3, g 4, g 5, g 6, g 7, g 8, g 9, g 10, g 11, g 12, g 13, g 14, g 15, g 16, g 17, g 18, g 19, g 20, g 21, g 22, g 23, g 24, g 25, g 26, g 27, g 28, g 29, g 30, g 31] = g j from sel_range g 32 j hj, hg j hj, pref_step s i.toNat j hj2 (hv0 (i.toNat - 1)) hn]
        · rw [if_neg hj2, hg j hj, pref_off s i.toNat j hj2]
    · replace hlt : ¬ i < @Nat.cast Int instNatCastInt s.length := of_decide_eq_false (p := i < (s.length : Int)) hlt
      have hi : i.toNat = 64 := by omega
      rw [hi] at hv0 hg
      have e : unE s = 0 := by
        unfold unE
        rw [if_neg (by omega), if_neg (by omega), if_pos (hexOk_iff.2 fun k hk => hv0 k (by omega))]
      have ef : ∀ j, j < 32 → g j = unF s j := fun j hj => by
        unfold unF
        rw [if_pos e]
        exact hg j hj
      refine ⟨?_, e.symm, trivial⟩
      rw [show hashC (unF s) = hashC g by unfold hashC; rw [ef 0 (by decide), ef 1 (by decide), ef 2 (by decide), ef 3 (by decide), ef 4 (by decide), ef 5 (by decide), ef 6 (by decide), ef 7 (by decide), ef 8 (by decide), ef 9 (by decide), ef 10 (by decide), ef 11 (by decide), ef 12 (by decide), ef 13 (by decide), ef 14 (by decide), ef 15 (by decide), ef 16 (by decide), ef 17 (by decide), ef 18 (by decide), ef 19 (by decide), ef 20 (by decide), ef 21 (by decide), ef 22 (by decide), ef 23 (by decide), ef 24 (by decide), ef 25 (by decide), ef 26 (by decide), ef 27 (by decide), ef 28 (by decide), ef 29 (by decide), ef 30 (by decide), ef 31 (by decide)]]
      repeat' (first | exact trivial | exact rfl | apply And.intro)

theorem dig_ix (a : UInt8) (d : Nat) (hd : d < 16) : decide (digI (d : Int) = (a.toNat : Int)) = decide (ixB digs (a.toNat : Int) = (d : Int)) := by
  have key : ∀ a : Fin 256, ∀ d : Fin 16, decide (digI (d.1 : Int) = (a.1 : Int)) = decide (ixB digs (a.1 : Int) = (d.1 : Int)) := by decide +kernel
  exact key ⟨a.toNat, a.toNat_lt⟩ ⟨d, hd⟩
/-- What two digits spell, if it is below a bound. -/
def pairV (x y v : Int) : Int := if 0 ≤ x ∧ 0 ≤ y ∧ 16 * x + y < v then 16 * x + y else -1
theorem pairV_zero (x y : Int) (hx : x < 16) (hy : y < 16) : pairV x y 0 = -1 := by
  unfold pairV
  rw [if_neg (by omega)]
theorem pairV_all (x y : Int) (hx : x < 16) (hy : y < 16) : pairV x y 256 = if 0 ≤ x ∧ 0 ≤ y then 16 * x + y else -1 := by
  unfold pairV
  by_cases h : 0 ≤ x ∧ 0 ≤ y
  · rw [if_pos ⟨h.1, h.2, by omega⟩, if_pos h]
  · rw [if_neg (by omega), if_neg h]
theorem pairV_hit (x y v : Int) (hv : 0 ≤ v) (hx : x = v / 16) (hy : y = v % 16) : pairV x y (v + 1) = v := by
  unfold pairV
  rw [if_pos (by omega)]
  omega
theorem pairV_miss (x y v : Int) (hv : 0 ≤ v) (hx : x < 16) (hy : y < 16) (h : ¬ (x = v / 16 ∧ y = v % 16)) : pairV x y (v + 1) = pairV x y v := by
  unfold pairV
  by_cases h2 : 0 ≤ x ∧ 0 ≤ y ∧ 16 * x + y < v
  · rw [if_pos h2, if_pos (by omega)]
  · rw [if_neg h2, if_neg (by omega)]
def pairsOk (s : List UInt8) : Bool := (List.range (s.length / 2 * 2)).all fun k => decide (0 ≤ hv s k)
def rhB (s : List UInt8) (n : Nat) : List UInt8 := (List.range n).map fun j => UInt8.ofNat (16 * hv s (2 * j) + hv s (2 * j + 1)).toNat
def rhF (s : List UInt8) : List UInt8 := if pairsOk s then rhB s (s.length / 2) else []
def rhOk (s : List UInt8) : Bool := pairsOk s && decide (s.length % 2 = 0)
theorem pairsOk_iff {s : List UInt8} : pairsOk s = true ↔ ∀ k, k < s.length / 2 * 2 → 0 ≤ hv s k := by
  unfold pairsOk
  rw [List.all_eq_true]
  exact ⟨fun h k hk => of_decide_eq_true (h k (List.mem_range.2 hk)), fun h k hk => decide_eq_true (h k (List.mem_range.1 hk))⟩
theorem rhB_len (s : List UInt8) (n : Nat) : (rhB s n).length = n := by simp [rhB]
theorem rhB_succ (s : List UInt8) (n : Nat) : rhB s (n + 1) = rhB s n ++ [UInt8.ofNat (16 * hv s (2 * n) + hv s (2 * n + 1)).toNat] := by
  unfold rhB
  rw [List.range_succ, List.map_append]
  rfl
structure LRo (s : List UInt8) where
  i : Int
  l : List UInt8
  h0 : 0 ≤ i
  h1 : i ≤ (s.length : Int)
  h2 : i % 2 = 0
  h3 : ∀ k, k < i.toNat → 0 ≤ hv s k
  h4 : l = rhB s (i.toNat / 2)
structure LRi (x y : Int) where
  v : Int
  n : Int
  h0 : 0 ≤ v
  h1 : v ≤ 256
  h2 : n = pairV x y v
theorem nib_div (v : Int) (h0 : 0 ≤ v) (h1 : v < 256) : IntKind.wrap .i64 (v.tdiv 16) = v / 16 ∧ v.tmod 16 = v % 16 := by
  have key : ∀ j : Fin 256, IntKind.wrap .i64 ((j.1 : Int).tdiv 16) = (j.1 : Int) / 16 ∧ (j.1 : Int).tmod 16 = (j.1 : Int) % 16 := by decide +kernel
  have := key ⟨v.toNat, by omega⟩
  simp only at this
  rw [show ((v.toNat : Nat) : Int) = v by omega] at this
  exact this
def sRFromHex : List SV → Option (Prop × SV)
  | [.c (.str s)] => some (rhexPre s, .tup [(some (.str (rhF s)), []), (some (.bool (rhOk s)), [])])
  | _ => none

set_option maxRecDepth 100000 in
set_option maxHeartbeats 2000000 in
theorem rfromHexP : Pure Tryd.prog 28 sRFromHex := by
  have hC : CtsOk Tryd.prog [(77, appPure sDigit)] := CtsOk.cons (Pure.ct digitP) <| CtsOk.nil _
  refine Pure.of (E := tbC) (C := [(77, appPure sDigit)]) [] 0 [(9, [(0, true), (1, true), (3, true), (4, true), (5, true), (2, false), (6, true), (7, true), (8, true), (9, true), (11, true), (12, true), (13, true), (14, true), (10, false), (15, true), (16, true)])] tbC_ok hC (by kernel_rfl) Tryd.func28 rfl rfl rfl (by kernel_rfl) (by kernel_rfl) ?_ ?_
  · intro args pre r h
    unfold sRFromHex at h
    split at h
    · cases h; rfl
    · cases h
  · intro args pre r h hp
    unfold sRFromHex at h
    split at h
    rotate_left
    · cases h
    rename_i s
    cases h
    have hs : s.length ≤ 1000000 := hp
    unfold sDigit
    generalize hg0 : digI = g0
    generalize hg1 : digPre = g1
    generalize hg2 : rhexPre = g2
    generalize hg3 : rhF = g3
    generalize hg4 : rhOk = g4
    generalize hg5 : (List.length : List UInt8 → Nat) = g5
    generalize hL : lft Tryd.prog _ = L
    generalize hA : Arith.std = A
    cbv
    subst hA hg0 hg1 hg2 hg3 hg4 hg5 hL
    refine Runs.nilTmpB 4 5 rfl ?_
    show Runs Tryd.prog 0 (.loop _) _ _
    refine loop_ruleR (N := env (lft Tryd.prog 0) 0 .std tbC [(77, appPure sDigit)] [(9, [(0, true), (1, true), (3, true), (4, true), (5, true), (2, false), (6, true), (7, true), (8, true), (9, true), (11, true), (12, true), (13, true), (14, true), (10, false), (15, true), (16, true)])]) rfl tbC_ok hC (fun c st K _ h => h) (by kernel_rfl) [] (X := LRo s)
      (S := fun x => ⟨[.c (.str s), .any, .any, .any, .c (.row 0), .c (.int .i64 x.i)] ++ List.replicate 44 .any, [.bytes 5 x.l]⟩) (μ := fun x => s.length - x.i.toNat) ⟨0, [], by omega, by omega, by omega, fun k hk => absurd hk (by show ¬ k < (0 : Int).toNat; omega), rfl⟩ (by kernel_rfl) [0] ?_ ?_
    · refine ⟨rfl, by decide, ?_, ?_⟩ <;> repeat' (first | exact trivial | exact rfl | apply And.intro)
    rintro ⟨i, l, hi0, hin, hi2, hv0, hl⟩
    unfold sDigit
    generalize hg0 : digI = g0
    generalize hg1 : digPre = g1
    generalize hg2 : rhexPre = g2
    generalize hg3 : rhF = g3
    generalize hg4 : rhOk = g4
    generalize hg5 : (List.length : List UInt8 → Nat) = g5
    generalize hL : lft Tryd.prog _ = L
    generalize hA : Arith.std = A
    cbv
    subst hA hg0 hg1 hg2 hg3 hg4 hg5 hL
    replace hi0 : 0 ≤ i := hi0
    replace hin : i ≤ @Nat.cast Int instNatCastInt s.length := hin
    replace hi2 : i % 2 = 0 := hi2
    replace hl : l = rhB s (i.toNat / 2) := hl
    have hll : l.length ≤ s.length := by rw [hl, rhB_len]; omega
    repeat refine Need.mk (by first | exact trivial | (simp only [Arith.std, fitStd]; omega) | (simp [Arith.std, fitStd]; omega)) fun _ => ?_
    refine Ife.mk (fun hlt => ?_) (fun hlt => ?_)
    · replace hlt : i + 1 < @Nat.cast Int instNatCastInt s.length := of_decide_eq_true (p := i + 1 < (s.length : Int)) hlt
      have rx := hv_range s i.toNat
      have ry := hv_range s (i.toNat + 1)
      show Runs Tryd.prog 0 (.loop _) _ _
      refine loop_ruleR (N := env (lft Tryd.prog 0) 0 .std tbC [(77, appPure sDigit)] [(9, [(0, true), (1, true), (3, true), (4, true), (5, true), (2, false), (6, true), (7, true), (8, true), (9, true), (11, true), (12, true), (13, true), (14, true), (10, false), (15, true), (16, true)])]) rfl tbC_ok hC (fun c st K _ h => h) (by kernel_rfl) [] (X := LRi (hv s i.toNat) (hv s (i.toNat + 1)))
        (S := fun x => ⟨[.c (.str s), .any, .any, .any, .c (.row 0), .c (.int .i64 i), .c (.int .i64 x.n), .c (.int .i64 x.v)] ++ List.replicate 42 .any, [.bytes 5 l]⟩) (μ := fun x => 256 - x.v.toNat) ⟨0, -1, by omega, by omega, (pairV_zero _ _ rx.2 ry.2).symm⟩ (by kernel_rfl) [0] ?_ ?_
      · refine ⟨rfl, by decide, ?_, ?_⟩ <;> repeat' (first | exact trivial | exact rfl | apply And.intro)
      rintro ⟨v, n, hv_0, hv_1, hn⟩
      unfold sDigit
      generalize hg0 : digI = g0
      generalize hg1 : digPre = g1
      generalize hg2 : rhexPre = g2
      generalize hg3 : rhF = g3
      generalize hg4 : rhOk = g4
      generalize hg5 : (List.length : List UInt8 → Nat) = g5
      generalize hL : lft Tryd.prog _ = L
      generalize hA : Arith.std = A
      cbv
      subst hA hg0 hg1 hg2 hg3 hg4 hg5 hL
      replace hv_0 : 0 ≤ v := hv_0
      replace hv_1 : v ≤ 256 := hv_1
      replace hn : n = pairV (hv s i.toNat) (hv s (i.toNat + 1)) v := hn
      replace hlt : i + 1 < @Nat.cast Int instNatCastInt s.length := hlt
      replace hin : i ≤ @Nat.cast Int instNatCastInt s.length := hin
      replace hs : s.length ≤ 1000000 := hs
      replace hll : l.length ≤ s.length := hll
      refine Ife.mk (fun hvl => ?_) (fun hvl => ?_)
      · replace hvl : v < 256 := of_decide_eq_true (p := v < 256) hvl
        obtain ⟨q1, q2⟩ := nib_div v hv_0 hvl
        have ta : decide (digI (IntKind.wrap .i64 (v.tdiv 16)) = ((s.getD i.toNat 0).toNat : Int)) = decide (hv s i.toNat = v / 16) := by
          have := dig_ix (s.getD i.toNat 0) (v / 16).toNat (by omega)
          rw [show (((v / 16).toNat : Nat) : Int) = v / 16 by omega] at this
          rw [q1]
          exact this
        have tb : decide (digI (v.tmod 16) = ((s.getD (i + 1).toNat 0).toNat : Int)) = decide (hv s (i.toNat + 1) = v % 16) := by
          have := dig_ix (s.getD (i.toNat + 1) 0) (v % 16).toNat (by omega)
          rw [show (((v % 16).toNat : Nat) : Int) = v % 16 by omega] at this
          rw [q2, show (i + 1).toNat = i.toNat + 1 by omega]
          exact this
        have fin1 : fitStd .i64 (v + 1) := by unfold fitStd; omega
        have fin2 : fitStd .i64 (i + 1) := by unfold fitStd; omega
        refine Need.mk (by show (16 : Int) ≠ 0; decide) fun _ => Need.mk (by show 0 ≤ i ∧ i < (s.length : Int); omega) fun _ => Need.mk (by show 0 ≤ IntKind.wrap .i64 (v.tdiv 16) ∧ IntKind.wrap .i64 (v.tdiv 16) < 16; rw [q1]; omega) fun _ => ?_
        refine Ife.mk (fun ha => ?_) (fun ha => ?_)
        · have ha : hv s i.toNat = v / 16 := of_decide_eq_true (ta.symm.trans ha)
          refine Need.mk (by show (16 : Int) ≠ 0; decide) fun _ => Need.mk fin2 fun _ => Need.mk (by show 0 ≤ i + 1 ∧ i + 1 < (s.length : Int); omega) fun _ => Need.mk (by show 0 ≤ v.tmod 16 ∧ v.tmod 16 < 16; rw [q2]; omega) fun _ => ?_
          refine Ife.mk (fun hb => ?_) (fun hb => ?_)
          · have hb : hv s (i.toNat + 1) = v % 16 := of_decide_eq_true (tb.symm.trans hb)
            refine Need.mk fin1 fun _ => ?_
            refine ⟨⟨v + 1, v, by omega, by omega, (pairV_hit _ _ v hv_0 ha hb).symm⟩, [0], (by show 256 - (v + 1).toNat < 256 - v.toNat; omega), ?_⟩
            refine ⟨rfl, by decide, ?_, ?_⟩ <;> repeat' (first | exact trivial | exact rfl | apply And.intro)
          · have hb : ¬ hv s (i.toNat + 1) = v % 16 := of_decide_eq_false (tb.symm.trans hb)
            refine Need.mk fin1 fun _ => ?_
            refine ⟨⟨v + 1, n, by omega, by omega, hn.trans (pairV_miss _ _ v hv_0 rx.2 ry.2 (fun h => hb h.2)).symm⟩, [0], (by show 256 - (v + 1).toNat < 256 - v.toNat; omega), ?_⟩
            refine ⟨rfl, by decide, ?_, ?_⟩ <;> repeat' (first | exact trivial | exact rfl | apply And.intro)
        · have ha : ¬ hv s i.toNat = v / 16 := of_decide_eq_false (ta.symm.trans ha)
          refine Need.mk fin1 fun _ => ?_
          refine ⟨⟨v + 1, n, by omega, by omega, hn.trans (pairV_miss _ _ v hv_0 rx.2 ry.2 (fun h => ha h.1)).symm⟩, [0], (by show 256 - (v + 1).toNat < 256 - v.toNat; omega), ?_⟩
          refine ⟨rfl, by decide, ?_, ?_⟩ <;> repeat' (first | exact trivial | exact rfl | apply And.intro)
      · replace hvl : ¬ v < 256 := of_decide_eq_false (p := v < 256) hvl
        have hv256 : v = 256 := by omega
        rw [hv256, pairV_all _ _ rx.2 ry.2] at hn
        refine Ife.mk (fun hneg => ?_) (fun hneg => ?_)
        · have hneg : n < 0 := of_decide_eq_true (p := n < 0) hneg
          have e : pairsOk s = false := Bool.eq_false_iff.2 fun h3 => by
            have h4 := pairsOk_iff.1 h3 i.toNat (by omega)
            have h5 := pairsOk_iff.1 h3 (i.toNat + 1) (by omega)
            rw [if_pos ⟨h4, h5⟩] at hn
            omega
          refine ⟨?_, ?_, trivial⟩
          · unfold rhF
            rw [e]
            rfl
          · unfold rhOk
            rw [e]
            rfl
        · have hneg : 0 ≤ n := by have := of_decide_eq_false (p := n < 0) hneg; omega
          have hb : 0 ≤ hv s i.toNat ∧ 0 ≤ hv s (i.toNat + 1) := by
            by_cases h : 0 ≤ hv s i.toNat ∧ 0 ≤ hv s (i.toNat + 1)
            · exact h
            · rw [if_neg h] at hn; omega
          rw [if_pos hb] at hn
          have hw : IntKind.wrap .u8 n = n := by
            have key : ∀ j : Fin 256, IntKind.wrap .u8 (j.1 : Int) = (j.1 : Int) := by decide +kernel
            have := key ⟨n.toNat, by omega⟩
            simp only at this
            rw [show ((n.toNat : Nat) : Int) = n by omega] at this
            exact this
          refine Need.mk (by show 0 ≤ IntKind.wrap .u8 n ∧ IntKind.wrap .u8 n < 256; rw [hw]; omega) fun _ => Need.mk (by show l.length + 1 ≤ 140737488355328; omega) fun _ => Need.mk (by show fitStd .i64 (i + 2); unfold fitStd; omega) fun _ => ?_
          refine ⟨⟨i + 2, l ++ ?lv, by omega, by omega, by omega, ?h3, ?h4⟩, [2], (by show s.length - (i + 2).toNat < s.length - i.toNat; omega), ?st⟩
          case st => refine ⟨rfl, by decide, ?_, ?_⟩ <;> repeat' (first | exact trivial | exact rfl | apply And.intro)
          case h3 =>
            intro k hk
            by_cases h1 : k = i.toNat
            · rw [h1]; exact hb.1
            · by_cases h2 : k = i.toNat + 1
              · rw [h2]; exact hb.2
              · exact hv0 k (by omega)
          case h4 =>
            rw [show (i + 2).toNat / 2 = i.toNat / 2 + 1 by omega, rhB_succ, ← hl, show 2 * (i.toNat / 2) = i.toNat by omega, ← hn]
            show l ++ [UInt8.ofNat (IntKind.wrap .u8 n).toNat] = _
            rw [hw]
    · replace hlt : ¬ i + 1 < @Nat.cast Int instNatCastInt s.length := of_decide_eq_false (p := i + 1 < (s.length : Int)) hlt
      have hk : i.toNat = s.length / 2 * 2 := by omega
      have e : pairsOk s = true := pairsOk_iff.2 fun k hk2 => hv0 k (by omega)
      refine Need.mk (by show (2 : Int) ≠ 0; decide) fun _ => ⟨?_, ?_, trivial⟩
      · unfold rhF
        rw [if_pos e, hl]
        congr 1
        omega
      · unfold rhOk
        rw [e, Bool.true_and]
        show decide ((s.length : Int).tmod 2 = 0) = _
        rw [Int.tmod_eq_emod_of_nonneg (by omega)]
        exact decide_eq_decide.2 (by omega)

end Go.Proofs.YtophhppklaofaaaDoor.Vx
end

section
/- The laws of the sums, by the walker: ShaCuts, ShaTells, ShaLess. -/
namespace Go.Proofs.YtophhppklaofaaaDoor.Vx
open Go.RowKit Sha
set_option linter.unusedVariables false
set_option linter.unusedSimpArgs false
/-- The texts of a slice that is written out. -/
theorem strs_cut (ls : List (List UInt8)) : StrsAt ls.length (cutC 1 (ls.map CV.str) 0) ∧ joinG ls.length (cutC 1 (ls.map CV.str) 0) = ls.flatten := by
  have e : ∀ i, (hi : i < ls.length) → cutC 1 (ls.map CV.str) 0 i = [.str ls[i]] := fun i hi => by
    unfold cutC
    rw [Nat.mul_one, Nat.zero_add, List.drop_eq_getElem_cons (by simpa using hi)]
    simp
  refine ⟨fun i hi => ⟨_, e i hi⟩, ?_⟩
  unfold joinG
  rw [List.flatMap]
  congr 1
  apply List.ext_getElem
  · simp
  · intro i h1 h2
    simp only [List.getElem_map, List.getElem_range]
    rw [e i h2]
    rfl
theorem sumPre_cut (ls : List (List UInt8)) (h : ls.flatten.length ≤ 140737488350000) (hn : ls.length ≤ 1000) : sumPre 0 1 64 (fun i => [.int .u32 (kOf i)]) 9 1 ls.length (cutC 1 (ls.map CV.str) 0) := by
  obtain ⟨h1, h2⟩ := strs_cut ls
  exact ⟨ksAt_self, rfl, rfl, h1, by omega, by rw [h2]; exact h⟩
theorem KsAt.left {gg sz n : Nat} {get : Nat → List CV} (h : KsAt gg sz n get) : hSame [.glob gg sz n get] [.glob 0 1 64 (fun i => [.int .u32 (kOf i)])] := h.same
def joinedPre (ty one n : Nat) (get : Nat → List CV) : Prop := ty = 9 ∧ one = 1 ∧ StrsAt n get ∧ n ≤ 140737488355328 ∧ (joinG n get).length ≤ 140737488350000
def sJoined : SpecF
  | [.c (.row 0)], [.elems ty one n get] => some (joinedPre ty one n get, .c (.str (joinG n get)), [.dead])
  | _, _ => none




def sFirst2 : SpecF
  | [], [.glob gg sz n get] => some (KsAt gg sz n get, .c .tt, [.dead])
  | _, _ => none

set_option maxRecDepth 100000 in
set_option maxHeartbeats 2000000 in
theorem firstP : Fn Tryd.prog 16 [0] [] sFirst2 := by
  have hC : CtsOk Tryd.prog [(17, appFn [0] [(9, 1)] sSum), (23, appPure sHex)] := CtsOk.cons (Fn.ct sumP) <| CtsOk.cons (Pure.ct hexP) <| CtsOk.nil _
  refine Fn.of (E := tbC) [] 0 [] tbC_ok hC (by kernel_rfl) Tryd.func16 rfl rfl rfl (by kernel_rfl) (by kernel_rfl) 1 5 1 ?_ ?_
  · intro args h pre r h' hs
    unfold sFirst2 at hs
    split at hs
    · cases hs; exact ⟨rfl, rfl, Nat.le_of_ble_eq_true rfl⟩
    · cases hs
  · intro args h pre r h' hs hp
    unfold sFirst2 at hs
    split at hs
    rotate_left
    · cases hs
    rename_i gg sz n get
    cases hs
    refine ⟨_, KsAt.left hp, ?_⟩
    unfold sSum sHex
    generalize hg0 : sumPre = g0
    generalize hg1 : joinG = g1
    generalize hg2 : cutC = g2
    generalize hg3 : sumI = g3
    generalize hg4 : HashC = g4
    generalize hg5 : hexL = g5
    generalize hg6 : u8s = g6
    generalize hg7 : kOf = g7
    generalize hA : Arith.std = A
    cbv
    subst hA hg0 hg1 hg2 hg3 hg4 hg5 hg6 hg7
    have e := (strs_cut [[97], [98, 99]]).2
    refine Need.mk (sumPre_cut [[97], [98, 99]] (by decide) (by decide)) fun _ => ?_
    replace e : joinG 2 (cutC 1 [CV.str [97], CV.str [98, 99]] 0) = [97, 98, 99] := e
    rw [e]
    refine Need.mk (hashC_sum _) fun _ => ?_
    refine ⟨[0], ⟨rfl, ?_, by decide, rfl, by repeat' (first | exact trivial | exact rfl | apply And.intro)⟩⟩
    show decide (hexL (hashB (sumI [97, 98, 99])) = [98, 97, 55, 56, 49, 54, 98, 102, 56, 102, 48, 49, 99, 102, 101, 97, 52, 49, 52, 49, 52, 48, 100, 101, 53, 100, 97, 101, 50, 50, 50, 51, 98, 48, 48, 51, 54, 49, 97, 51, 57, 54, 49, 55, 55, 97, 57, 99, 98, 52, 49, 48, 102, 102, 54, 49, 102, 50, 48, 48, 49, 53, 97, 100]) = true
    decide +kernel

end Go.Proofs.YtophhppklaofaaaDoor.Vx
end

section
/- The laws ShaCuts, ShaTells, ShaLess. -/
namespace Go.Proofs.YtophhppklaofaaaDoor.Vx
open Go.RowKit Sha
set_option linter.unusedVariables false
set_option linter.unusedSimpArgs false

/-- Two sums are one, byte by byte. -/
def eqH (f g : Nat → Int) : Bool := decide (f 0 = g 0) && (decide (f 1 = g 1) && (decide (f 2 = g 2) && (decide (f 3 = g 3) && (decide (f 4 = g 4) && (decide (f 5 = g 5) && (decide (f 6 = g 6) && (decide (f 7 = g 7) && (decide (f 8 = g 8) && (decide (f 9 = g 9) && (decide (f 10 = g 10) && (decide (f 11 = g 11) && (decide (f 12 = g 12) && (decide (f 13 = g 13) && (decide (f 14 = g 14) && (decide (f 15 = g 15) && (decide (f 16 = g 16) && (decide (f 17 = g 17) && (decide (f 18 = g 18) && (decide (f 19 = g 19) && (decide (f 20 = g 20) && (decide (f 21 = g 21) && (decide (f 22 = g 22) && (decide (f 23 = g 23) && (decide (f 24 = g 24) && (decide (f 25 = g 25) && (decide (f 26 = g 26) && (decide (f 27 = g 27) && (decide (f 28 = g 28) && (decide (f 29 = g 29) && (decide (f 30 = g 30) && (decide (f 31 = g 31) && true)))))))))))))))))))))))))))))))
theorem eqH_self (f : Nat → Int) : eqH f f = true := by simp [eqH]
theorem eqH_iff {f g : Nat → Int} : eqH f g = true ↔ ∀ i, i < 32 → f i = g i := by
  constructor
  · intro h i hi
    simp only [eqH, Bool.and_eq_true, decide_eq_true_iff] at h
    have : i = 0 ∨ i = 1 ∨ i = 2 ∨ i = 3 ∨ i = 4 ∨ i = 5 ∨ i = 6 ∨ i = 7 ∨ i = 8 ∨ i = 9 ∨ i = 10 ∨ i = 11 ∨ i = 12 ∨ i = 13 ∨ i = 14 ∨ i = 15 ∨ i = 16 ∨ i = 17 ∨ i = 18 ∨ i = 19 ∨ i = 20 ∨ i = 21 ∨ i = 22 ∨ i = 23 ∨ i = 24 ∨ i = 25 ∨ i = 26 ∨ i = 27 ∨ i = 28 ∨ i = 29 ∨ i = 30 ∨ i = 31 := by omega
    rcases this with rfl | rfl | rfl | rfl | rfl | rfl | rfl | rfl | rfl | rfl | rfl | rfl | rfl | rfl | rfl | rfl | rfl | rfl | rfl | rfl | rfl | rfl | rfl | rfl | rfl | rfl | rfl | rfl | rfl | rfl | rfl | rfl <;> simp only [h]
  · intro h
    simp [eqH, h]

end Go.Proofs.YtophhppklaofaaaDoor.Vx
end
