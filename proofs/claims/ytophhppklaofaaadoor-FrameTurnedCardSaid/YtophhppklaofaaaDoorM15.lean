/- Texts joined, a text repeated: the library's functions, as contracts. -/
import Derived.Test.YtophhppklaofaaaDoorM14
import Derived.Test.YtophhppklaofaaaDoorShelf
section
namespace Go.Proofs.YtophhppklaofaaaDoor.Vx
open Go.RowKit Sha
set_option linter.unusedVariables false
set_option linter.unusedSimpArgs false
/-- The text that is a cell. -/
def strOf : List CV → List UInt8
  | [.str l] => l
  | _ => []
/-- Texts, one behind the other. -/
def joinG (n : Nat) (get : Nat → List CV) : List UInt8 := (List.range n).flatMap fun i => strOf (get i)
def StrsAt (n : Nat) (get : Nat → List CV) : Prop := ∀ i, i < n → ∃ l, get i = [.str l]
theorem ksAt_self : KsAt 0 1 64 (fun i => [.int .u32 (kOf i)]) := ⟨rfl, rfl, rfl, fun _ _ => rfl⟩
def joinPre (ty one : Nat) (sep : List UInt8) (n : Nat) (get : Nat → List CV) : Prop := ty = 9 ∧ one = 1 ∧ sep = [] ∧ StrsAt n get ∧ n ≤ 140737488355328 ∧ (joinG n get).length ≤ 140737488355328
def repPre (l : List UInt8) (c : Int) : Prop := l = [0] ∧ 0 ≤ c ∧ c ≤ 1000
def sJoin : SpecF
  | [.c (.row 0), .c (.str sep)], [.elems ty one n get] => some (joinPre ty one sep n get, .c (.str (joinG n get)), [.dead])
  | _, _ => none

theorem joinP : Fn Tryd.prog 70 [] [(9, 1)] sJoin := by
  refine Fn.plain (by kernel_rfl) (fun args h pre res h' hs => ?_) fun args h pre res h' hs hp ρ W us rel hus => ?_
  · unfold sJoin at hs
    split at hs
    · cases hs; exact ⟨rfl, Nat.le_refl _⟩
    · cases hs
  · unfold sJoin at hs
    split at hs
    rotate_left
    · cases hs
    rename_i sep ty one n get
    cases hs
    obtain ⟨rfl, rfl, rfl, hst, hn, hlen⟩ := hp
    obtain ⟨u0, us1, rfl, hu0, u1, us2, rfl, hu1, rfl⟩ := hus
    obtain ⟨p, hpk, rfl⟩ := den_row hu0
    obtain ⟨⟨a, cap, hpv, hcap, ha⟩, hget⟩ := rel.ok 0 _ p rfl hpk
    obtain rfl : .string ⟨#[]⟩ = u1 := Option.some.inj hu1
    rw [hpv]
    obtain ⟨xs, hxs⟩ : ∃ xs : List ByteArray, xs = (List.range n).map fun i => ⟨(strOf (get i)).toArray⟩ := ⟨_, rfl⟩
    have hxl : xs.length = n := by rw [hxs]; simp
    have hj : Lib.join (xs.map (·.data.toList)) [] = joinG n get := by
      have e1 : xs.map (·.data.toList) = (List.range n).map fun i => strOf (get i) := by
        rw [hxs, List.map_map]
        refine List.map_congr_left fun i _ => ?_
        simp
      have e2 : ∀ l : List (List UInt8), Lib.join l [] = l.flatten := fun l => by
        cases l with
        | nil => rfl
        | cons x r =>
          rw [Lib.join_cons]
          unfold Lib.joinTail
          simp
      rw [e1, e2, joinG, List.flatMap]
    have hres : ∀ (e : Ending) (w' : World), (e = .returned (.string ⟨(Lib.join (xs.map (·.data.toList)) []).toArray⟩) ∧ Below W.heap.size W w') → ∃ u ρ', e = .returned u ∧ SV.is (ρ ++ ρ') (.c (.str (joinG n get))) u ∧ Rel W (Fps ρ [.elems 9 1 n get]) (ρ ++ ρ') [.dead] w' := fun e w' he => by
      obtain ⟨rfl, hb⟩ := he
      rw [hj]
      refine ⟨_, [], rfl, rfl, ?_⟩
      rw [List.append_nil]
      refine (rel.belowStep hb).forget (fun k e he => ?_) rfl
      cases k with
      | zero => simp at he; exact Or.inl he.symm
      | succ k => simp at he
    rcases Nat.eq_zero_or_pos n with h0 | h0
    · subst h0
      refine Calls.mono (Tryd.strings_Join_none a cap ⟨#[]⟩ W) fun e w' he => hres e w' ?_
      obtain ⟨he, rfl⟩ := he
      obtain rfl : xs = [] := List.eq_nil_of_length_eq_zero hxl
      exact ⟨he, Below.refl _ _⟩
    · rw [ha h0]
      have hdep := rel.dep_lt (k := 0) rfl hpk (b := p.b) (by simp [Ent.dep, h0])
      have := Tryd.strings_Join p.b p.o cap xs ⟨#[]⟩ W (fun j x hx => ?_) hdep (by rw [hxl]; exact hn) (by rw [hxl]; exact hcap) (by show (Lib.join _ []).length ≤ _; rw [hj]; exact hlen)
      · rw [hxl] at this
        exact Calls.mono this fun e w' he => hres e w' he
      · have hjn : j < n := by rw [← hxl]; exact (List.getElem?_eq_some_iff.1 hx).1
        obtain ⟨l, hl⟩ := hst j hjn
        obtain ⟨vs, hv, hc⟩ := hget j hjn
        rw [hl] at hv
        have hv2 : [Value.string ⟨l.toArray⟩] = vs := (show IsL [] [CV.str l] [.string ⟨l.toArray⟩] from rfl).unique hv
        have h1 := hc 0 (.string ⟨l.toArray⟩) (by rw [← hv2]; rfl)
        rw [Nat.mul_one, Nat.add_zero] at h1
        rw [h1]
        have h2 : x = ⟨(strOf (get j)).toArray⟩ := by
          rw [hxs, List.getElem?_map, List.getElem?_range hjn] at hx
          exact (Option.some.inj hx).symm
        rw [h2, hl]
        rfl
def sRepeat : List SV → Option (Prop × SV)
  | [.c (.str l), .c (.int .i64 c)] => some (repPre l c, .c (.str (List.replicate c.toNat 0)))
  | _ => none

theorem repeatL_one (n : Nat) : Lib.repeatL [0] n = List.replicate n 0 := by
  induction n with
  | zero => rfl
  | succ n ih => rw [Lib.repeatL, ih]; rfl
theorem repeatP : Pure Tryd.prog 71 sRepeat := by
  refine ⟨by kernel_rfl, fun args pre r h hp us hs W => ?_⟩
  unfold sRepeat at h
  split at h
  rotate_left
  · cases h
  rename_i l c
  cases h
  obtain ⟨rfl, h0, h1⟩ := hp
  obtain ⟨u0, us1, rfl, hu0, u1, us2, rfl, hu1, rfl⟩ := hs
  obtain rfl : .string ⟨#[0]⟩ = u0 := Option.some.inj hu0
  obtain rfl : .int .i64 c = u1 := Option.some.inj hu1
  have := Tryd.strings_Repeat ⟨#[0]⟩ c.toNat W (by omega) (by show 1 * c.toNat ≤ _; omega)
  rw [show ((c.toNat : Nat) : Int) = c by omega] at this
  refine Calls.mono this fun e W' he => ?_
  obtain ⟨rfl, hb⟩ := he
  refine ⟨_, rfl, ?_, hb⟩
  show some (Value.string _) = _
  rw [← repeatL_one]
end Go.Proofs.YtophhppklaofaaaDoor.Vx
end

section
/- The document's sum, by the walker: how a block is mixed in. -/
namespace Go.Proofs.YtophhppklaofaaaDoor.Vx
open Go.RowKit Sha
set_option linter.unusedVariables false
set_option linter.unusedSimpArgs false
/-- A byte that is a cell. -/
def byteOf : List CV → UInt8
  | [.int .u8 n] => UInt8.ofNat n.toNat
  | _ => 0






end Go.Proofs.YtophhppklaofaaaDoor.Vx
end

section
/- The sum of texts, by the walker. -/
namespace Go.Proofs.YtophhppklaofaaaDoor.Vx
open Go.RowKit Sha
set_option linter.unusedVariables false
set_option linter.unusedSimpArgs false
/-- The chunks, so far. -/
structure LB (p : List UInt8) where
  k : Nat
  l : List UInt8
  s : S8
  h1 : k ≤ p.length / 64
  h2 : l = p.drop (64 * k)
  h3 : s = blocks k iv p
theorem sel8S (s : S8) (i : Nat) : Arith.std.sel i [s.a, s.b, s.c, s.d, s.e, s.f, s.g, s.h] = s.at i := rfl
theorem out_int (s : S8) (i : Int) (h0 : 0 ≤ i) (h1 : i < 32) : IntKind.wrap .u8 ((s.at (IntKind.wrap .i64 (i.tdiv 4)).toNat).fdiv (2 ^ (min (24 - i.tmod 4 * 8).toNat 32))) = outS s i.toNat := by
  have key : ∀ j : Fin 32, (IntKind.wrap .i64 ((j.1 : Int).tdiv 4)).toNat = j.1 / 4 ∧ min (24 - (j.1 : Int).tmod 4 * 8).toNat 32 = 24 - 8 * (j.1 % 4) := by decide +kernel
  obtain ⟨h2, h3⟩ := key ⟨i.toNat, by omega⟩
  simp only at h2 h3
  rw [show ((i.toNat : Nat) : Int) = i by omega] at h2 h3
  rw [h2, h3]
  rfl
theorem zs_int (n : Nat) : ((119 - (n : Int).tmod 64).tmod 64).toNat = zs n := by
  unfold zs
  have h1 : (n : Int).tmod 64 = ((n % 64 : Nat) : Int) := by rw [Int.tmod_eq_emod_of_nonneg (by omega)]; omega
  rw [h1, Int.tmod_eq_emod_of_nonneg (by omega)]
  omega
theorem zs_lt (n : Nat) : 0 ≤ (119 - (n : Int).tmod 64).tmod 64 ∧ (119 - (n : Int).tmod 64).tmod 64 < 64 := by
  have h1 : (n : Int).tmod 64 = ((n % 64 : Nat) : Int) := by rw [Int.tmod_eq_emod_of_nonneg (by omega)]; omega
  rw [h1, Int.tmod_eq_emod_of_nonneg (by omega)]
  omega
theorem quo4 (i : Int) (h0 : 0 ≤ i) (h1 : i < 32) : 0 ≤ IntKind.wrap .i64 (i.tdiv 4) ∧ IntKind.wrap .i64 (i.tdiv 4) < 8 ∧ 0 ≤ i.tmod 4 ∧ i.tmod 4 < 4 := by
  have key : ∀ j : Fin 32, 0 ≤ IntKind.wrap .i64 ((j.1 : Int).tdiv 4) ∧ IntKind.wrap .i64 ((j.1 : Int).tdiv 4) < 8 ∧ 0 ≤ (j.1 : Int).tmod 4 ∧ (j.1 : Int).tmod 4 < 4 := by decide +kernel
  have := key ⟨i.toNat, by omega⟩
  simp only at this
  rw [show ((i.toNat : Nat) : Int) = i by omega] at this
  exact this
theorem pad_div (l : List UInt8) : 64 * ((pad l).length / 64) = (pad l).length := by have := pad_mod l; omega
def sumPre (gg sz n : Nat) (get : Nat → List CV) (ty one m : Nat) (gets : Nat → List CV) : Prop := KsAt gg sz n get ∧ ty = 9 ∧ one = 1 ∧ StrsAt m gets ∧ m ≤ 140737488355328 ∧ (joinG m gets).length ≤ 140737488350000
def sSum : SpecF
  | [.c (.row 1)], [.glob gg sz n get, .elems ty one m gets] => some (sumPre gg sz n get ty one m gets, .agg [.int .u8 (sumI (joinG m gets) 0), .int .u8 (sumI (joinG m gets) 1), .int .u8 (sumI (joinG m gets) 2), .int .u8 (sumI (joinG m gets) 3), .int .u8 (sumI (joinG m gets) 4), .int .u8 (sumI (joinG m gets) 5), .int .u8 (sumI (joinG m gets) 6), .int .u8 (sumI (joinG m gets) 7), .int .u8 (sumI (joinG m gets) 8), .int .u8 (sumI (joinG m gets) 9), .int .u8 (sumI (joinG m gets) 10), .int .u8 (sumI (joinG m gets) 11), .int .u8 (sumI (joinG m gets) 12), .int .u8 (sumI (joinG m gets) 13), .int .u8 (sumI (joinG m gets) 14), .int .u8 (sumI (joinG m gets) 15), .int .u8 (sumI (joinG m gets) 16), .int .u8 (sumI (joinG m gets) 17), .int .u8 (sumI (joinG m gets) 18), .int .u8 (sumI (joinG m gets) 19), .int .u8 (sumI (joinG m gets) 20), .int .u8 (sumI (joinG m gets) 21), .int .u8 (sumI (joinG m gets) 22), .int .u8 (sumI (joinG m gets) 23), .int .u8 (sumI (joinG m gets) 24), .int .u8 (sumI (joinG m gets) 25), .int .u8 (sumI (joinG m gets) 26), .int .u8 (sumI (joinG m gets) 27), .int .u8 (sumI (joinG m gets) 28), .int .u8 (sumI (joinG m gets) 29), .int .u8 (sumI (joinG m gets) 30), .int .u8 (sumI (joinG m gets) 31)], [.dead, .dead])
  | _, _ => none

set_option maxRecDepth 100000 in
set_option maxHeartbeats 2000000 in
theorem sumP : Fn Tryd.prog 17 [0] [(9, 1)] sSum := by
  have hC : CtsOk Tryd.prog [(70, appFn [] [(9, 1)] sJoin), (71, appPure sRepeat), (72, appPure sLen8), (73, appPure sBegin), (74, appFn [0] [] sMix)] := CtsOk.cons (Fn.ct joinP) <| CtsOk.cons (Pure.ct repeatP) <| CtsOk.cons (Pure.ct lengthP) <| CtsOk.cons (Pure.ct beginP) <| CtsOk.cons (Fn.ct mixP) <| CtsOk.nil _
  refine Fn.of (E := tbC) [] 0 [(7, [(0, true), (1, true), (2, true), (3, false), (1004, false), (4, false)])] tbC_ok hC (by kernel_rfl) Tryd.func17 rfl rfl rfl (by kernel_rfl) (by kernel_rfl) 2 5 1 ?_ ?_
  · intro args h pre r h' hs
    unfold sSum at hs
    split at hs
    · cases hs; exact ⟨rfl, rfl, Nat.le_of_ble_eq_true rfl⟩
    · cases hs
  · intro args h pre r h' hs hp
    unfold sSum at hs
    split at hs
    rotate_left
    · cases hs
    rename_i gg sz n get ty one m gets
    cases hs
    obtain ⟨hK, rfl, rfl, hst, hm, hlen⟩ := hp
    refine ⟨[.glob 0 1 64 (fun i => [.int .u32 (kOf i)]), .elems 9 1 m gets], ⟨hK.same.1, ⟨rfl, rfl, rfl, fun _ _ => rfl⟩, trivial⟩, ?_⟩
    clear hK
    unfold sJoin sRepeat sLen8 sBegin sMix
    generalize hg0 : joinPre = g0
    generalize hg1 : repPre = g1
    generalize hg2 : lenPre = g2
    generalize hg3 : joinG = g3
    generalize hg4 : StrsAt = g4
    generalize hg5 : KsAt = g5
    generalize hg6 : len8 = g6
    generalize hg7 : kOf = g7
    generalize hg8 : mixS = g8
    generalize hg9 : iv = g9
    generalize hg10 : (List.replicate : Nat → UInt8 → List UInt8) = g10
    generalize hg11 : (List.length : List UInt8 → Nat) = g11
    generalize hg12 : sumI = g12
    generalize hg13 : (List.take : Nat → List UInt8 → List UInt8) = g13
    generalize hg14 : (List.drop : Nat → List UInt8 → List UInt8) = g14
    generalize hL : lft Tryd.prog _ = L
    generalize hA : Arith.std = A
    cbv
    subst hA hg0 hg1 hg2 hg3 hg4 hg5 hg6 hg7 hg8 hg9 hg10 hg11 hg12 hg13 hg14 hL
    refine Need.mk ⟨rfl, rfl, rfl, hst, hm, by omega⟩ fun _ => ?_
    generalize hJ : joinG m gets = J at hlen
    have hJ' := Lib.hid hJ
    clear hst hJ
    have hz := zs_int J.length
    have hz2 : 0 ≤ (119 - (J.length : Int).tmod 64).tmod 64 ∧ (119 - (J.length : Int).tmod 64).tmod 64 < 64 := zs_lt J.length
    refine Need.mk (by show (64 : Int) ≠ 0; decide) fun _ => Need.mk (by have := Int.tmod_lt_of_pos (J.length : Int) (b := 64) (by decide); have := Int.tmod_nonneg (a := (J.length : Int)) 64 (by omega); show fitStd .i64 (119 - (J.length : Int).tmod 64); unfold fitStd; omega) fun _ => Need.mk (by show (64 : Int) ≠ 0; decide) fun _ => ?_
    refine Need.mk ⟨rfl, hz2.1, by have := hz2.2; show (119 - (J.length : Int).tmod 64).tmod 64 ≤ 1000; omega⟩ fun _ => ?_
    have hrl : (List.replicate ((119 - (J.length : Int).tmod 64).tmod 64).toNat (0 : UInt8)).length ≤ 64 := by rw [List.length_replicate]; omega
    refine Need.mk (by show (1 : Int) + ((List.replicate ((119 - (J.length : Int).tmod 64).tmod 64).toNat (0 : UInt8)).length : Int) ≤ 9223372036854775807; omega) fun _ => ?_
    refine Need.mk ⟨by show (0 : Int) ≤ (J.length : Int); omega, by show (J.length : Int) ≤ 9223372036854775807; omega⟩ fun _ => ?_
    have hl8 := len8_len J.length
    refine Need.mk (by show ((([128] ++ List.replicate ((119 - (J.length : Int).tmod 64).tmod 64).toNat (0 : UInt8)) : List UInt8).length : Int) + ((len8 J.length).length : Int) ≤ 9223372036854775807; rw [List.length_append, hl8, List.length_singleton]; omega) fun _ => ?_
    refine Need.mk (by show (J.length : Int) + ((([128] ++ List.replicate ((119 - (J.length : Int).tmod 64).tmod 64).toNat (0 : UInt8)) ++ len8 J.length : List UInt8).length : Int) ≤ 9223372036854775807; rw [List.length_append, List.length_append, hl8, List.length_singleton]; omega) fun _ => ?_
    refine Need.mk trivial fun _ => ?_
    have hpl := pad_len J
    have hpm := pad_mod J
    have hpd := pad_div J
    have hzl : zs J.length < 64 := by unfold zs; omega
    show Runs Tryd.prog 2 (.loop _) _ _
    refine loop_ruleR (N := env (lft Tryd.prog 2) 0 .std tbC [(70, appFn [] [(9, 1)] sJoin), (71, appPure sRepeat), (72, appPure sLen8), (73, appPure sBegin), (74, appFn [0] [] sMix)] [(7, [(0, true), (1, true), (2, true), (3, false), (1004, false), (4, false)])]) rfl tbC_ok hC (fun c st K _ h => h) (by kernel_rfl) [0] (X := LB (pad J))
      (S := fun x => ⟨[.any, .any, .c (.ptr 2 0), .c (.str x.l), .any, .c (.ptr 4 0)] ++ List.replicate 43 .any, [.glob 0 1 64 (fun i => [.int .u32 (kOf i)]), .dead, .cells 24 [.int .u8 0, .int .u8 0, .int .u8 0, .int .u8 0, .int .u8 0, .int .u8 0, .int .u8 0, .int .u8 0, .int .u8 0, .int .u8 0, .int .u8 0, .int .u8 0, .int .u8 0, .int .u8 0, .int .u8 0, .int .u8 0, .int .u8 0, .int .u8 0, .int .u8 0, .int .u8 0, .int .u8 0, .int .u8 0, .int .u8 0, .int .u8 0, .int .u8 0, .int .u8 0, .int .u8 0, .int .u8 0, .int .u8 0, .int .u8 0, .int .u8 0, .int .u8 0], .dead, .cells 86 [.int .u32 x.s.a, .int .u32 x.s.b, .int .u32 x.s.c, .int .u32 x.s.d, .int .u32 x.s.e, .int .u32 x.s.f, .int .u32 x.s.g, .int .u32 x.s.h]]⟩) (μ := fun x => x.l.length) ⟨0, J ++ (([128] ++ List.replicate ((119 - (J.length : Int).tmod 64).tmod 64).toNat 0) ++ len8 J.length), iv, by omega, (by rw [hz]; rfl), rfl⟩ (by kernel_rfl) [0, 1, 2, 3, 4] ?_ ?_
    · refine ⟨rfl, by decide, ?_, ?_⟩ <;> repeat' (first | exact trivial | exact rfl | apply And.intro)
    rintro ⟨k, l, s, hk, hl, hs⟩
    unfold sJoin sRepeat sLen8 sBegin sMix
    generalize hg0 : joinPre = g0
    generalize hg1 : repPre = g1
    generalize hg2 : lenPre = g2
    generalize hg3 : joinG = g3
    generalize hg4 : StrsAt = g4
    generalize hg5 : KsAt = g5
    generalize hg6 : len8 = g6
    generalize hg7 : kOf = g7
    generalize hg8 : mixS = g8
    generalize hg9 : iv = g9
    generalize hg10 : (List.replicate : Nat → UInt8 → List UInt8) = g10
    generalize hg11 : (List.length : List UInt8 → Nat) = g11
    generalize hg12 : sumI = g12
    generalize hg13 : (List.take : Nat → List UInt8 → List UInt8) = g13
    generalize hg14 : (List.drop : Nat → List UInt8 → List UInt8) = g14
    generalize hL : lft Tryd.prog _ = L
    generalize hA : Arith.std = A
    cbv
    subst hA hg0 hg1 hg2 hg3 hg4 hg5 hg6 hg7 hg8 hg9 hg10 hg11 hg12 hg13 hg14 hL
    replace hk : k ≤ (pad J).length / 64 := hk
    replace hl : l = (pad J).drop (64 * k) := hl
    replace hs : s = blocks k iv (pad J) := hs
    have hll : l.length = (pad J).length - 64 * k := by rw [hl, List.length_drop]
    refine Ife.mk (fun hne => ?_) (fun hne => ?_)
    · have hne : l ≠ [] := fun h => by subst h; cases hne
      have h64 : 64 ≤ l.length := by
        have : 0 < l.length := List.length_pos_iff.2 hne
        omega
      refine Need.mk (by show (0 : Int) ≤ 0 ∧ (0 : Int) ≤ 64 ∧ (64 : Int) ≤ (l.length : Int); omega) fun _ => ?_
      refine Need.mk ⟨ksAt_self, by show ((l.take 64).drop 0).length = 64; rw [List.drop_zero, List.length_take]; omega⟩ fun _ => ?_
      refine Need.mk (by show (0 : Int) ≤ 64 ∧ (64 : Int) ≤ (l.length : Int) ∧ (l.length : Int) ≤ (l.length : Int); omega) fun _ => ?_
      refine ⟨⟨k + 1, (l.take l.length).drop 64, mixS s ((l.take 64).drop 0), by omega, ?h2, ?h3⟩, [0, 1, 2, 3, 4], (by show ((l.take l.length).drop 64).length < l.length; rw [List.length_drop, List.length_take]; omega), ?st⟩
      case st => refine ⟨rfl, by decide, ?_, ?_⟩ <;> repeat' (first | exact trivial | exact rfl | apply And.intro)
      case h2 =>
        rw [List.take_length, hl, List.drop_drop]
        first | rfl | (congr 1; omega)
      case h3 =>
        rw [List.drop_zero, hs, hl]
        have := blocks_add k 1 iv (pad J)
        rw [this]
        rfl
    · have hne : l = [] := by
        cases l with
        | nil => rfl
        | cons x l => cases hne
      have hk2 : k = (pad J).length / 64 := by
        have : l.length = 0 := by rw [hne]; rfl
        omega
      have hsE : s = endS J := by rw [hs, hk2]; rfl
      clear hs hl hll hne hk2 hk
      generalize hE : endS J = E at hsE
      subst hsE
      show Runs Tryd.prog 2 (.loop _) _ _
      refine loop_ruleR (N := env (lft Tryd.prog 2) 0 .std tbY [(70, appFn [] [(9, 1)] sJoin), (71, appPure sRepeat), (72, appPure sLen8), (73, appPure sBegin), (74, appFn [0] [] sMix)] [(7, [(0, true), (1, true), (2, true), (3, false), (1004, false), (4, false)])]) rfl tbY_ok hC (fun c st K _ h => h) (by kernel_rfl) [] (X := LFill 32 (outS s) (fun _ => 0))
        (S := fun x => ⟨[.any, .any, .c (.ptr 2 0), .any, .any, .c (.ptr 4 0), .c (.ptr 5 0), .any, .any, .any, .any, .any, .any, .any, .any, .any, .any, .any, .any, .any, .any, .any, .any, .any, .any, .any, .any, .any, .any, .any, .any, .any, .c (.int .i64 x.i)] ++ List.replicate 16 .any, [.glob 0 1 64 (fun i => [.int .u32 (kOf i)]), .dead, .cells 24 [.int .u8 0, .int .u8 0, .int .u8 0, .int .u8 0, .int .u8 0, .int .u8 0, .int .u8 0, .int .u8 0, .int .u8 0, .int .u8 0, .int .u8 0, .int .u8 0, .int .u8 0, .int .u8 0, .int .u8 0, .int .u8 0, .int .u8 0, .int .u8 0, .int .u8 0, .int .u8 0, .int .u8 0, .int .u8 0, .int .u8 0, .int .u8 0, .int .u8 0, .int .u8 0, .int .u8 0, .int .u8 0, .int .u8 0, .int .u8 0, .int .u8 0, .int .u8 0], .dead, .cells 86 [.int .u32 s.a, .int .u32 s.b, .int .u32 s.c, .int .u32 s.d, .int .u32 s.e, .int .u32 s.f, .int .u32 s.g, .int .u32 s.h], .cells 24 [.int .u8 (x.g 0), .int .u8 (x.g 1), .int .u8 (x.g 2), .int .u8 (x.g 3), .int .u8 (x.g 4), .int .u8 (x.g 5), .int .u8 (x.g 6), .int .u8 (x.g 7), .int .u8 (x.g 8), .int .u8 (x.g 9), .int .u8 (x.g 10), .int .u8 (x.g 11), .int .u8 (x.g 12), .int .u8 (x.g 13), .int .u8 (x.g 14), .int .u8 (x.g 15), .int .u8 (x.g 16), .int .u8 (x.g 17), .int .u8 (x.g 18), .int .u8 (x.g 19), .int .u8 (x.g 20), .int .u8 (x.g 21), .int .u8 (x.g 22), .int .u8 (x.g 23), .int .u8 (x.g 24), .int .u8 (x.g 25), .int .u8 (x.g 26), .int .u8 (x.g 27), .int .u8 (x.g 28), .int .u8 (x.g 29), .int .u8 (x.g 30), .int .u8 (x.g 31)]]⟩) (μ := fun x => 32 - x.i.toNat) ⟨0, (fun _ => 0), by omega, by omega, fun j hj => absurd hj (by omega), fun j _ _ => rfl⟩ (by kernel_rfl) [0, 1, 2, 3, 4, 5] ?_ ?_
      · refine ⟨rfl, by decide, ?_, ?_⟩ <;> repeat' (first | exact trivial | exact rfl | apply And.intro)
      rintro ⟨i2, g2, hi02, hin2, hlo2, hhi2⟩
      unfold sJoin sRepeat sLen8 sBegin sMix
      generalize hg0 : joinPre = g0
      generalize hg1 : repPre = g1
      generalize hg2 : lenPre = g2
      generalize hg3 : joinG = g3
      generalize hg4 : StrsAt = g4
      generalize hg5 : KsAt = g5
      generalize hg6 : len8 = g6
      generalize hg7 : kOf = g7
      generalize hg8 : mixS = g8
      generalize hg9 : iv = g9
      generalize hg10 : (List.replicate : Nat → UInt8 → List UInt8) = g10
      generalize hg11 : (List.length : List UInt8 → Nat) = g11
      generalize hg12 : sumI = g12
      generalize hg13 : (List.take : Nat → List UInt8 → List UInt8) = g13
      generalize hg14 : (List.drop : Nat → List UInt8 → List UInt8) = g14
      generalize hL : lft Tryd.prog _ = L
      generalize hA : Arith.std = A
      cbv
      subst hA hg0 hg1 hg2 hg3 hg4 hg5 hg6 hg7 hg8 hg9 hg10 hg11 hg12 hg13 hg14 hL
      replace hi02 : 0 ≤ i2 := hi02
      replace hin2 : i2 ≤ ((32 : Nat) : Int) := hin2
      replace hlo2 : ∀ j : Nat, (j : Int) < i2 → g2 j = (outS s) j := hlo2
      replace hhi2 : ∀ j : Nat, i2 ≤ (j : Int) → j < 32 → g2 j = (fun _ => 0) j := hhi2
      refine Ife.mk (fun hlt2 => ?_) (fun hlt2 => ?_)
      · replace hlt2 : i2 < (32 : Int) := of_decide_eq_true (p := i2 < (32 : Int)) hlt2
        obtain ⟨q1, q2, q3, q4⟩ := quo4 i2 hi02 hlt2
        repeat refine Need.mk (by first | exact trivial | (simp only [Arith.std, fitStd]; omega) | (simp [Arith.std, fitStd]; omega)) fun _ => ?_
        refine ⟨⟨i2 + 1, fun j => Arith.std.upd (i2.toNat) (j) ?fv2 (g2 j), by omega, by omega, ?h2, ?h3⟩, [0, 1, 2, 3, 4, 5], (by show 32 - (i2 + 1).toNat < 32 - i2.toNat; omega), ?st⟩
        case st => refine ⟨rfl, by decide, ?_, ?_⟩ <;> repeat' (first | exact trivial | exact rfl | apply And.intro)
        case h3 =>
          intro j hj hj2
          show (if i2.toNat = j then _ else g2 j) = _
          rw [if_neg (by omega)]
          exact hhi2 j (by omega) hj2
        case h2 =>
          intro j hj
          show (if i2.toNat = j then _ else g2 j) = _
          by_cases hji : i2.toNat = j
          · rw [if_pos hji]
            obtain rfl : j = i2.toNat := by omega
            clear hji hj
            show IntKind.wrap .u8 ((Arith.std.sel (IntKind.wrap .i64 (i2.tdiv 4)).toNat [s.a, s.b, s.c, s.d, s.e, s.f, s.g, s.h]).fdiv (2 ^ (min (24 - i2.tmod 4 * 8).toNat 32))) = outS s i2.toNat
            rw [sel8S]
            exact out_int s i2 hi02 hlt2
          · rw [if_neg hji]
            exact hlo2 j (by omega)
      · replace hlt2 : ¬ i2 < (32 : Int) := of_decide_eq_false (p := i2 < (32 : Int)) hlt2
        have hq2 : ∀ k : Nat, k < 32 → g2 k = (outS s) k := fun k hk => hlo2 k (by omega)
        have hq3 : ∀ k, k < 32 → g2 k = sumI J k := fun k hk => by rw [hq2 k hk]; unfold sumI; rw [hE]
        rw [hq3 0 (by decide), hq3 1 (by decide), hq3 2 (by decide), hq3 3 (by decide), hq3 4 (by decide), hq3 5 (by decide), hq3 6 (by decide), hq3 7 (by decide), hq3 8 (by decide), hq3 9 (by decide), hq3 10 (by decide), hq3 11 (by decide), hq3 12 (by decide), hq3 13 (by decide), hq3 14 (by decide), hq3 15 (by decide), hq3 16 (by decide), hq3 17 (by decide), hq3 18 (by decide), hq3 19 (by decide), hq3 20 (by decide), hq3 21 (by decide), hq3 22 (by decide), hq3 23 (by decide), hq3 24 (by decide), hq3 25 (by decide), hq3 26 (by decide), hq3 27 (by decide), hq3 28 (by decide), hq3 29 (by decide), hq3 30 (by decide), hq3 31 (by decide)]
        exact ⟨[0, 1], ⟨rfl, by repeat' (first | exact trivial | exact rfl | apply And.intro), by decide, rfl, by repeat' (first | exact trivial | exact rfl | apply And.intro)⟩⟩
    

end Go.Proofs.YtophhppklaofaaaDoor.Vx
end

section
/- The document's sum, by the walker. -/
namespace Go.Proofs.YtophhppklaofaaaDoor.Vx
open Go.RowKit Sha
set_option linter.unusedVariables false
set_option linter.unusedSimpArgs false
def rsumPre (l : List UInt8) : Prop := l.length ≤ 140737488350000


end Go.Proofs.YtophhppklaofaaaDoor.Vx
end
