/- Texts joined, a text repeated: the library's functions, as contracts. -/
import Derived.Test.YtophhppklaofaaaDoorM14
import Derived.Test.YtophhppklaofaaaDoorShelf
section
namespace Go.Proofs.YtophhppklaofaaaDoor.Vx
open Go.RowKit Sha
set_option linter.unusedVariables false
set_option linter.unusedSimpArgs false
/-- The text that is a cell. -/
def strOf : List CV → List UInt8
  | [.str l] => l
  | _ => []
/-- Texts, one behind the other. -/
def joinG (n : Nat) (get : Nat → List CV) : List UInt8 := (List.range n).flatMap fun i => strOf (get i)
def StrsAt (n : Nat) (get : Nat → List CV) : Prop := ∀ i, i < n → ∃ l, get i = [.str l]
theorem ksAt_self : KsAt 0 1 64 (fun i => [.int .u32 (kOf i)]) := ⟨rfl, rfl, rfl, fun _ _ => rfl⟩
def joinPre (ty one : Nat) (sep : List UInt8) (n : Nat) (get : Nat → List CV) : Prop := ty = 9 ∧ one = 1 ∧ sep = [] ∧ StrsAt n get ∧ n ≤ 140737488355328 ∧ (joinG n get).length ≤ 140737488355328
def repPre (l : List UInt8) (c : Int) : Prop := l = [0] ∧ 0 ≤ c ∧ c ≤ 1000
def sJoin : SpecF
  | [.c (.row 0), .c (.str sep)], [.elems ty one n get] => some (joinPre ty one sep n get, .c (.str (joinG n get)), [.dead])
  | _, _ => none

theorem joinP : Fn Tryd.prog 70 [] [(9, 1)] sJoin := by
  refine Fn.plain (by kernel_rfl) (fun args h pre res h' hs => ?_) fun args h pre res h' hs hp ρ W us rel hus => ?_
  · unfold sJoin at hs
    split at hs
    · cases hs; exact ⟨rfl, Nat.le_refl _⟩
    · cases hs
  · unfold sJoin at hs
    split at hs
    rotate_left
    · cases hs
    rename_i sep ty one n get
    cases hs
    obtain ⟨rfl, rfl, rfl, hst, hn, hlen⟩ := hp
    obtain ⟨u0, us1, rfl, hu0, u1, us2, rfl, hu1, rfl⟩ := hus
    obtain ⟨p, hpk, rfl⟩ := den_row hu0
    obtain ⟨⟨a, cap, hpv, hcap, ha⟩, hget⟩ := rel.ok 0 _ p rfl hpk
    obtain rfl : .string ⟨#[]⟩ = u1 := Option.some.inj hu1
    rw [hpv]
    obtain ⟨xs, hxs⟩ : ∃ xs : List ByteArray, xs = (List.range n).map fun i => ⟨(strOf (get i)).toArray⟩ := ⟨_, rfl⟩
    have hxl : xs.length = n := by rw [hxs]; simp
    have hj : Lib.join (xs.map (·.data.toList)) [] = joinG n get := by
      have e1 : xs.map (·.data.toList) = (List.range n).map fun i => strOf (get i) := by
        rw [hxs, List.map_map]
        refine List.map_congr_left fun i _ => ?_
        simp
      have e2 : ∀ l : List (List UInt8), Lib.join l [] = l.flatten := fun l => by
        cases l with
        | nil => rfl
        | cons x r =>
          rw [Lib.join_cons]
          unfold Lib.joinTail
          simp
      rw [e1, e2, joinG, List.flatMap]
    have hres : ∀ (e : Ending) (w' : World), (e = .returned (.string ⟨(Lib.join (xs.map (·.data.toList)) []).toArray⟩) ∧ Below W.heap.size W w') → ∃ u ρ', e = .returned u ∧ SV.is (ρ ++ ρ') (.c (.str (joinG n get))) u ∧ Rel W (Fps ρ [.elems 9 1 n get]) (ρ ++ ρ') [.dead] w' := fun e w' he => by
      obtain ⟨rfl, hb⟩ := he
      rw [hj]
      refine ⟨_, [], rfl, rfl, ?_⟩
      rw [List.append_nil]
      refine (rel.belowStep hb).forget (fun k e he => ?_) rfl
      cases k with
      | zero => simp at he; exact Or.inl he.symm
      | succ k => simp at he
    rcases Nat.eq_zero_or_pos n with h0 | h0
    · subst h0
      refine Calls.mono (Tryd.strings_Join_none a cap ⟨#[]⟩ W) fun e w' he => hres e w' ?_
      obtain ⟨he, rfl⟩ := he
      obtain rfl : xs = [] := List.eq_nil_of_length_eq_zero hxl
      exact ⟨he, Below.refl _ _⟩
    · rw [ha h0]
      have hdep := rel.dep_lt (k := 0) rfl hpk (b := p.b) (by simp [Ent.dep, h0])
      have := Tryd.strings_Join p.b p.o cap xs ⟨#[]⟩ W (fun j x hx => ?_) hdep (by rw [hxl]; exact hn) (by rw [hxl]; exact hcap) (by show (Lib.join _ []).length ≤ _; rw [hj]; exact hlen)
      · rw [hxl] at this
        exact Calls.mono this fun e w' he => hres e w' he
      · have hjn : j < n := by rw [← hxl]; exact (List.getElem?_eq_some_iff.1 hx).1
        obtain ⟨l, hl⟩ := hst j hjn
        obtain ⟨vs, hv, hc⟩ := hget j hjn
        rw [hl] at hv
        have hv2 : [Value.string ⟨l.toArray⟩] = vs := (show IsL [] [CV.str l] [.string ⟨l.toArray⟩] from rfl).unique hv
        have h1 := hc 0 (.string ⟨l.toArray⟩) (by rw [← hv2]; rfl)
        rw [Nat.mul_one, Nat.add_zero] at h1
        rw [h1]
        have h2 : x = ⟨(strOf (get j)).toArray⟩ := by
          rw [hxs, List.getElem?_map, List.getElem?_range hjn] at hx
          exact (Option.some.inj hx).symm
        rw [h2, hl]
        rfl
def sRepeat : List SV → Option (Prop × SV)
  | [.c (.str l), .c (.int .i64 c)] => some (repPre l c, .c (.str (List.replicate c.toNat 0)))
  | _ => none

theorem repeatL_one (n : Nat) : Lib.repeatL [0] n = List.replicate n 0 := by
  induction n with
  | zero => rfl
  | succ n ih => rw [Lib.repeatL, ih]; rfl
theorem repeatP : Pure Tryd.prog 71 sRepeat := by
  refine ⟨by kernel_rfl, fun args pre r h hp us hs W => ?_⟩
  unfold sRepeat at h
  split at h
  rotate_left
  · cases h
  rename_i l c
  cases h
  obtain ⟨rfl, h0, h1⟩ := hp
  obtain ⟨u0, us1, rfl, hu0, u1, us2, rfl, hu1, rfl⟩ := hs
  obtain rfl : .string ⟨#[0]⟩ = u0 := Option.some.inj hu0
  obtain rfl : .int .i64 c = u1 := Option.some.inj hu1
  have := Tryd.strings_Repeat ⟨#[0]⟩ c.toNat W (by omega) (by show 1 * c.toNat ≤ _; omega)
  rw [show ((c.toNat : Nat) : Int) = c by omega] at this
  refine Calls.mono this fun e W' he => ?_
  obtain ⟨rfl, hb⟩ := he
  refine ⟨_, rfl, ?_, hb⟩
  show some (Value.string _) = _
  rw [← repeatL_one]
end Go.Proofs.YtophhppklaofaaaDoor.Vx
end

section
/- The document's sum, by the walker: how a block is mixed in. -/
namespace Go.Proofs.YtophhppklaofaaaDoor.Vx
open Go.RowKit Sha
set_option linter.unusedVariables false
set_option linter.unusedSimpArgs false
def rturnPre (n : Int) : Prop := 0 < n ∧ n < 32
/-- A byte that is a cell. -/
def byteOf : List CV → UInt8
  | [.int .u8 n] => UInt8.ofNat n.toNat
  | _ => 0
def bytesG (n : Nat) (get : Nat → List CV) : List UInt8 := (List.range n).map fun i => byteOf (get i)
def BytesG (n : Nat) (get : Nat → List CV) : Prop := ∀ i, i < n → ∃ b : UInt8, get i = [.int .u8 (b.toNat : Int)]
theorem bytesG_get {n : Nat} {get : Nat → List CV} (h : BytesG n get) (i : Nat) (hi : i < n) : get i = [.int .u8 (byteN (bytesG n get) i)] := by
  obtain ⟨b, hb⟩ := h i hi
  rw [hb]
  unfold byteN bytesG
  rw [List.getD_eq_getElem?_getD, List.getElem?_map, List.getElem?_range hi]
  simp [hb, byteOf]
theorem bytesG_len (n : Nat) (get : Nat → List CV) : (bytesG n get).length = n := by simp [bytesG]
def k64 : List CV := [.int .u32 (kOf 0), .int .u32 (kOf 1), .int .u32 (kOf 2), .int .u32 (kOf 3), .int .u32 (kOf 4), .int .u32 (kOf 5), .int .u32 (kOf 6), .int .u32 (kOf 7), .int .u32 (kOf 8), .int .u32 (kOf 9), .int .u32 (kOf 10), .int .u32 (kOf 11), .int .u32 (kOf 12), .int .u32 (kOf 13), .int .u32 (kOf 14), .int .u32 (kOf 15), .int .u32 (kOf 16), .int .u32 (kOf 17), .int .u32 (kOf 18), .int .u32 (kOf 19), .int .u32 (kOf 20), .int .u32 (kOf 21), .int .u32 (kOf 22), .int .u32 (kOf 23), .int .u32 (kOf 24), .int .u32 (kOf 25), .int .u32 (kOf 26), .int .u32 (kOf 27), .int .u32 (kOf 28), .int .u32 (kOf 29), .int .u32 (kOf 30), .int .u32 (kOf 31), .int .u32 (kOf 32), .int .u32 (kOf 33), .int .u32 (kOf 34), .int .u32 (kOf 35), .int .u32 (kOf 36), .int .u32 (kOf 37), .int .u32 (kOf 38), .int .u32 (kOf 39), .int .u32 (kOf 40), .int .u32 (kOf 41), .int .u32 (kOf 42), .int .u32 (kOf 43), .int .u32 (kOf 44), .int .u32 (kOf 45), .int .u32 (kOf 46), .int .u32 (kOf 47), .int .u32 (kOf 48), .int .u32 (kOf 49), .int .u32 (kOf 50), .int .u32 (kOf 51), .int .u32 (kOf 52), .int .u32 (kOf 53), .int .u32 (kOf 54), .int .u32 (kOf 55), .int .u32 (kOf 56), .int .u32 (kOf 57), .int .u32 (kOf 58), .int .u32 (kOf 59), .int .u32 (kOf 60), .int .u32 (kOf 61), .int .u32 (kOf 62), .int .u32 (kOf 63)]
def rmixPre (ty one n : Nat) (get : Nat → List CV) (ks : List CV) : Prop := ty = 5 ∧ one = 1 ∧ n = 64 ∧ BytesG n get ∧ ks = k64
def sRTurn : List SV → Option (Prop × SV)
  | [.c (.int .u32 w), .c (.int .i64 n)] => some (rturnPre n, .c (.int .u32 (rot w n)))
  | _ => none

set_option maxRecDepth 100000 in
set_option maxHeartbeats 400000 in
theorem rturnP : Pure Tryd.prog 109 sRTurn := by
  refine Pure.of (E := tbC) (C := []) [] 0 [(1, [(0, true), (1, true), (2, true), (3, true), (4, true), (5, true), (6, true), (7, true), (8, true)])] tbC_ok (CtsOk.nil _) (by kernel_rfl) Tryd.func109 rfl rfl rfl (by kernel_rfl) (by kernel_rfl) ?_ ?_
  · intro args pre r h
    unfold sRTurn at h
    split at h
    · cases h; first | rfl | exact ⟨rfl, rfl⟩
    · cases h
  · intro args pre r h hp
    unfold sRTurn at h
    split at h
    rotate_left
    · cases h
    rename_i w n
    cases h
    generalize hg0 : rot = g0
    generalize hg1 : rturnPre = g1
    generalize hA : Arith.std = A
    cbv
    subst hA hg0 hg1
    obtain ⟨h0, h1⟩ := hp
    refine Need.mk (by first | exact trivial | (simp only [Arith.std, fitStd]; omega) | (simp [Arith.std, fitStd]; omega)) fun _ => ?_
    refine Need.mk (by first | exact trivial | (simp only [Arith.std, fitStd]; omega) | (simp [Arith.std, fitStd]; omega)) fun _ => ?_
    refine Need.mk (by first | exact trivial | (simp only [Arith.std, fitStd]; omega) | (simp [Arith.std, fitStd]; omega)) fun _ => ?_
    rfl

def sConsts : List SV → Option (Prop × SV)
  | [] => some (True, .agg [.int .u32 (kOf 0), .int .u32 (kOf 1), .int .u32 (kOf 2), .int .u32 (kOf 3), .int .u32 (kOf 4), .int .u32 (kOf 5), .int .u32 (kOf 6), .int .u32 (kOf 7), .int .u32 (kOf 8), .int .u32 (kOf 9), .int .u32 (kOf 10), .int .u32 (kOf 11), .int .u32 (kOf 12), .int .u32 (kOf 13), .int .u32 (kOf 14), .int .u32 (kOf 15), .int .u32 (kOf 16), .int .u32 (kOf 17), .int .u32 (kOf 18), .int .u32 (kOf 19), .int .u32 (kOf 20), .int .u32 (kOf 21), .int .u32 (kOf 22), .int .u32 (kOf 23), .int .u32 (kOf 24), .int .u32 (kOf 25), .int .u32 (kOf 26), .int .u32 (kOf 27), .int .u32 (kOf 28), .int .u32 (kOf 29), .int .u32 (kOf 30), .int .u32 (kOf 31), .int .u32 (kOf 32), .int .u32 (kOf 33), .int .u32 (kOf 34), .int .u32 (kOf 35), .int .u32 (kOf 36), .int .u32 (kOf 37), .int .u32 (kOf 38), .int .u32 (kOf 39), .int .u32 (kOf 40), .int .u32 (kOf 41), .int .u32 (kOf 42), .int .u32 (kOf 43), .int .u32 (kOf 44), .int .u32 (kOf 45), .int .u32 (kOf 46), .int .u32 (kOf 47), .int .u32 (kOf 48), .int .u32 (kOf 49), .int .u32 (kOf 50), .int .u32 (kOf 51), .int .u32 (kOf 52), .int .u32 (kOf 53), .int .u32 (kOf 54), .int .u32 (kOf 55), .int .u32 (kOf 56), .int .u32 (kOf 57), .int .u32 (kOf 58), .int .u32 (kOf 59), .int .u32 (kOf 60), .int .u32 (kOf 61), .int .u32 (kOf 62), .int .u32 (kOf 63)])
  | _ => none

set_option maxRecDepth 100000 in
set_option maxHeartbeats 400000 in
theorem constsP : Pure Tryd.prog 75 sConsts := by
  refine Pure.of (E := tbC) (C := []) [] 0 [] tbC_ok (CtsOk.nil _) (by kernel_rfl) Tryd.func75 rfl rfl rfl (by kernel_rfl) (by kernel_rfl) ?_ ?_
  · intro args pre r h
    unfold sConsts at h
    split at h
    · cases h; first | rfl | exact ⟨rfl, rfl⟩
    · cases h
  · intro args pre r h hp
    unfold sConsts at h
    split at h
    rotate_left
    · cases h
    cases h
    generalize hg0 : kOf = g0
    generalize hA : Arith.std = A
    cbv
    subst hA hg0
    repeat' (first | exact trivial | exact rfl | apply And.intro)

def sRMix : SpecF
  | [.agg [.int .u32 ha, .int .u32 hb, .int .u32 hc', .int .u32 hd, .int .u32 he, .int .u32 hf, .int .u32 hg, .int .u32 hh], .c (.row 0), .agg ks], [.elems ty one n get] => some (rmixPre ty one n get ks, .agg [.int .u32 (mixS ⟨ha, hb, hc', hd, he, hf, hg, hh⟩ (bytesG n get)).a, .int .u32 (mixS ⟨ha, hb, hc', hd, he, hf, hg, hh⟩ (bytesG n get)).b, .int .u32 (mixS ⟨ha, hb, hc', hd, he, hf, hg, hh⟩ (bytesG n get)).c, .int .u32 (mixS ⟨ha, hb, hc', hd, he, hf, hg, hh⟩ (bytesG n get)).d, .int .u32 (mixS ⟨ha, hb, hc', hd, he, hf, hg, hh⟩ (bytesG n get)).e, .int .u32 (mixS ⟨ha, hb, hc', hd, he, hf, hg, hh⟩ (bytesG n get)).f, .int .u32 (mixS ⟨ha, hb, hc', hd, he, hf, hg, hh⟩ (bytesG n get)).g, .int .u32 (mixS ⟨ha, hb, hc', hd, he, hf, hg, hh⟩ (bytesG n get)).h], [.dead])
  | _, _ => none

set_option maxRecDepth 100000 in
set_option maxHeartbeats 2000000 in
theorem rmixP : Fn Tryd.prog 76 [] [(5, 1)] sRMix := by
  have hC : CtsOk Tryd.prog [(109, appPure sRTurn)] := CtsOk.cons (Pure.ct rturnP) <| CtsOk.nil _
  refine Fn.of (E := tbY) [] 0 [(6, [(0, true), (1, true), (2, true), (3, true), (4, true), (5, true), (6, true), (7, true), (8, true), (9, true), (10, true), (11, true), (12, true), (13, true), (14, true), (15, true), (16, true), (17, true), (18, true), (19, true), (20, true), (21, true), (22, true), (23, true), (24, true), (25, true), (26, true), (27, true), (28, true), (29, true), (30, true), (31, true), (32, true), (33, true), (34, true), (1035, false), (35, false)]), (7, [(0, true), (1, true), (2, true), (3, true), (4, true), (5, true), (6, true), (7, true), (8, true), (9, true)]), (8, [(0, true), (1, true), (2, true), (3, true), (4, true), (5, true), (7, true), (10, true), (11, true), (14, true), (15, true), (16, true), (17, true), (19, true), (21, true), (24, true), (25, true), (6, false), (8, false), (9, true), (12, true), (13, true), (18, true), (20, false), (22, false), (23, true), (26, true), (27, true), (28, true), (1029, false), (29, false)]), (14, [(0, true), (1, true), (2, true), (4, true), (7, true), (11, true), (12, true), (13, true), (14, true), (15, true), (16, true), (17, true), (18, true), (19, true), (20, true), (22, true), (23, true), (24, true), (26, true), (27, true), (28, true), (3, false), (5, false), (6, true), (8, false), (9, true), (10, true), (21, true), (25, true), (29, true), (30, true)]), (16, [(0, true), (2, true), (5, true), (8, true), (9, true), (10, true), (11, true), (12, true), (13, true), (14, true), (15, true), (16, true), (17, true), (18, true), (19, true), (20, true), (21, true), (22, true), (1, false), (3, false), (4, true), (6, false), (7, true), (23, true), (24, true)]), (21, [(0, true), (1, true), (2, true), (3, true), (4, true), (5, true), (6, true), (7, true), (1008, false), (8, false)])] tbY_ok hC (by kernel_rfl) Tryd.func76 rfl rfl rfl (by kernel_rfl) (by kernel_rfl) 1 5 1 ?_ ?_
  · intro args h pre r h' hs
    unfold sRMix at hs
    split at hs
    · cases hs; exact ⟨rfl, rfl, Nat.le_of_ble_eq_true rfl⟩
    · cases hs
  · intro args h pre r h' hs hp
    unfold sRMix at hs
    split at hs
    rotate_left
    · cases hs
    rename_i ha hb hc' hd he hf hg hh ks ty one n get
    cases hs
    obtain ⟨rfl, rfl, rfl, hB, rfl⟩ := hp
    obtain ⟨c, hc⟩ : ∃ c, c = bytesG 64 get := ⟨_, rfl⟩
    have hcl : c.length = 64 := by rw [hc, bytesG_len]
    refine ⟨[.elems 5 1 64 (fun i => [.int .u8 (byteN c i)])], ⟨⟨rfl, rfl, rfl, fun i hi => by rw [hc]; exact bytesG_get hB i hi⟩, trivial⟩, ?_⟩
    rw [← hc]
    clear hB hc
    unfold k64
    unfold sRTurn
    generalize hg0 : schW = g0
    generalize hg1 : turn3 = g1
    generalize hg2 : kOf = g2
    generalize hg3 : mixS = g3
    generalize hg4 : rturnPre = g4
    generalize hg5 : byteN = g5
    generalize hg6 : rot = g6
    generalize hL : lft Tryd.prog _ = L
    generalize hA : Arith.std = A
    cbv
    subst hA hg0 hg1 hg2 hg3 hg4 hg5 hg6 hL
    show Runs Tryd.prog 1 (.loop _) _ _
    refine loop_ruleR (N := env (lft Tryd.prog 1) 0 .std tbY [(109, appPure sRTurn)] [(6, [(0, true), (1, true), (2, true), (3, true), (4, true), (5, true), (6, true), (7, true), (8, true), (9, true), (10, true), (11, true), (12, true), (13, true), (14, true), (15, true), (16, true), (17, true), (18, true), (19, true), (20, true), (21, true), (22, true), (23, true), (24, true), (25, true), (26, true), (27, true), (28, true), (29, true), (30, true), (31, true), (32, true), (33, true), (34, true), (1035, false), (35, false)]), (7, [(0, true), (1, true), (2, true), (3, true), (4, true), (5, true), (6, true), (7, true), (8, true), (9, true)]), (8, [(0, true), (1, true), (2, true), (3, true), (4, true), (5, true), (7, true), (10, true), (11, true), (14, true), (15, true), (16, true), (17, true), (19, true), (21, true), (24, true), (25, true), (6, false), (8, false), (9, true), (12, true), (13, true), (18, true), (20, false), (22, false), (23, true), (26, true), (27, true), (28, true), (1029, false), (29, false)]), (14, [(0, true), (1, true), (2, true), (4, true), (7, true), (11, true), (12, true), (13, true), (14, true), (15, true), (16, true), (17, true), (18, true), (19, true), (20, true), (22, true), (23, true), (24, true), (26, true), (27, true), (28, true), (3, false), (5, false), (6, true), (8, false), (9, true), (10, true), (21, true), (25, true), (29, true), (30, true)]), (16, [(0, true), (2, true), (5, true), (8, true), (9, true), (10, true), (11, true), (12, true), (13, true), (14, true), (15, true), (16, true), (17, true), (18, true), (19, true), (20, true), (21, true), (22, true), (1, false), (3, false), (4, true), (6, false), (7, true), (23, true), (24, true)]), (21, [(0, true), (1, true), (2, true), (3, true), (4, true), (5, true), (6, true), (7, true), (1008, false), (8, false)])]) rfl tbY_ok hC (fun c st K _ h => h) (by kernel_rfl) [] (X := LSp c)
      (S := fun x => ⟨[.any, .c (.row 0), .any, .c (.ptr 1 0), .any, .c (.ptr 2 0), .c (.ptr 3 0), .c (.ptr 4 0), .c (.int .i64 x.i)] ++ List.replicate 183 .any, [.elems 5 1 64 (fun i => [.int .u8 (byteN c i)]), .cells 86 [.int .u32 ha, .int .u32 hb, .int .u32 hc', .int .u32 hd, .int .u32 he, .int .u32 hf, .int .u32 hg, .int .u32 hh], .cells 90 [.int .u32 (kOf 0), .int .u32 (kOf 1), .int .u32 (kOf 2), .int .u32 (kOf 3), .int .u32 (kOf 4), .int .u32 (kOf 5), .int .u32 (kOf 6), .int .u32 (kOf 7), .int .u32 (kOf 8), .int .u32 (kOf 9), .int .u32 (kOf 10), .int .u32 (kOf 11), .int .u32 (kOf 12), .int .u32 (kOf 13), .int .u32 (kOf 14), .int .u32 (kOf 15), .int .u32 (kOf 16), .int .u32 (kOf 17), .int .u32 (kOf 18), .int .u32 (kOf 19), .int .u32 (kOf 20), .int .u32 (kOf 21), .int .u32 (kOf 22), .int .u32 (kOf 23), .int .u32 (kOf 24), .int .u32 (kOf 25), .int .u32 (kOf 26), .int .u32 (kOf 27), .int .u32 (kOf 28), .int .u32 (kOf 29), .int .u32 (kOf 30), .int .u32 (kOf 31), .int .u32 (kOf 32), .int .u32 (kOf 33), .int .u32 (kOf 34), .int .u32 (kOf 35), .int .u32 (kOf 36), .int .u32 (kOf 37), .int .u32 (kOf 38), .int .u32 (kOf 39), .int .u32 (kOf 40), .int .u32 (kOf 41), .int .u32 (kOf 42), .int .u32 (kOf 43), .int .u32 (kOf 44), .int .u32 (kOf 45), .int .u32 (kOf 46), .int .u32 (kOf 47), .int .u32 (kOf 48), .int .u32 (kOf 49), .int .u32 (kOf 50), .int .u32 (kOf 51), .int .u32 (kOf 52), .int .u32 (kOf 53), .int .u32 (kOf 54), .int .u32 (kOf 55), .int .u32 (kOf 56), .int .u32 (kOf 57), .int .u32 (kOf 58), .int .u32 (kOf 59), .int .u32 (kOf 60), .int .u32 (kOf 61), .int .u32 (kOf 62), .int .u32 (kOf 63)], .cells 86 [.int .u32 0, .int .u32 0, .int .u32 0, .int .u32 0, .int .u32 0, .int .u32 0, .int .u32 0, .int .u32 0], .cells 90 [.int .u32 (x.g 0), .int .u32 (x.g 1), .int .u32 (x.g 2), .int .u32 (x.g 3), .int .u32 (x.g 4), .int .u32 (x.g 5), .int .u32 (x.g 6), .int .u32 (x.g 7), .int .u32 (x.g 8), .int .u32 (x.g 9), .int .u32 (x.g 10), .int .u32 (x.g 11), .int .u32 (x.g 12), .int .u32 (x.g 13), .int .u32 (x.g 14), .int .u32 (x.g 15), .int .u32 (x.g 16), .int .u32 (x.g 17), .int .u32 (x.g 18), .int .u32 (x.g 19), .int .u32 (x.g 20), .int .u32 (x.g 21), .int .u32 (x.g 22), .int .u32 (x.g 23), .int .u32 (x.g 24), .int .u32 (x.g 25), .int .u32 (x.g 26), .int .u32 (x.g 27), .int .u32 (x.g 28), .int .u32 (x.g 29), .int .u32 (x.g 30), .int .u32 (x.g 31), .int .u32 (x.g 32), .int .u32 (x.g 33), .int .u32 (x.g 34), .int .u32 (x.g 35), .int .u32 (x.g 36), .int .u32 (x.g 37), .int .u32 (x.g 38), .int .u32 (x.g 39), .int .u32 (x.g 40), .int .u32 (x.g 41), .int .u32 (x.g 42), .int .u32 (x.g 43), .int .u32 (x.g 44), .int .u32 (x.g 45), .int .u32 (x.g 46), .int .u32 (x.g 47), .int .u32 (x.g 48), .int .u32 (x.g 49), .int .u32 (x.g 50), .int .u32 (x.g 51), .int .u32 (x.g 52), .int .u32 (x.g 53), .int .u32 (x.g 54), .int .u32 (x.g 55), .int .u32 (x.g 56), .int .u32 (x.g 57), .int .u32 (x.g 58), .int .u32 (x.g 59), .int .u32 (x.g 60), .int .u32 (x.g 61), .int .u32 (x.g 62), .int .u32 (x.g 63)]]⟩) (μ := fun x => 64 - x.i.toNat) ⟨0, fun _ => 0, by omega, by omega, fun j hj => by omega⟩ (by kernel_rfl) [0, 1, 2, 3, 4] ?_ ?_
    · refine ⟨rfl, by decide, ?_, ?_⟩ <;> repeat' (first | exact trivial | exact rfl | apply And.intro)
    rintro ⟨i, g, hi0, hin, hall⟩
    unfold sRTurn
    generalize hg0 : schW = g0
    generalize hg1 : turn3 = g1
    generalize hg2 : kOf = g2
    generalize hg3 : mixS = g3
    generalize hg4 : rturnPre = g4
    generalize hg5 : byteN = g5
    generalize hg6 : rot = g6
    generalize hL : lft Tryd.prog _ = L
    generalize hA : Arith.std = A
    cbv
    subst hA hg0 hg1 hg2 hg3 hg4 hg5 hg6 hL
    replace hi0 : 0 ≤ i := hi0
    replace hin : i ≤ 64 := hin
    replace hall : ∀ j : Nat, (j : Int) < i → g j = schW c j := hall
    refine Ife.mk (fun h => ?_) (fun h => ?_)
    · have hlt : i < 64 := of_decide_eq_true (p := i < 64) h
      refine Ife.mk (fun h => ?_) (fun h => ?_)
      · have hl16 : i < 16 := of_decide_eq_true (p := i < 16) h
        repeat refine Need.mk (by first | exact trivial | (simp only [Arith.std, fitStd]; omega) | (simp [Arith.std, fitStd]; omega)) fun _ => ?_
        refine ⟨⟨i + 1, fun j => Arith.std.upd i.toNat j ?v1 (g j), by omega, by omega, ?h2⟩, [0, 1, 2, 3, 4], (by show 64 - (i + 1).toNat < 64 - i.toNat; omega), ?st⟩
        case st => refine ⟨rfl, by decide, ?_, ?_⟩ <;> repeat' (first | exact trivial | exact rfl | apply And.intro)
        case h2 =>
          intro j hj
          show (if i.toNat = j then _ else g j) = _
          by_cases hji : i.toNat = j
          · rw [if_pos hji, ← hji, schW_lo c (by omega), ← word_int c i hi0]
            rfl
          · rw [if_neg hji]
            exact hall j (by omega)
      · have hl16 : ¬ i < 16 := of_decide_eq_false (p := i < 16) h
        repeat (first | refine Need.mk (by first | exact trivial | (simp only [Arith.std, fitStd]; omega) | (simp [Arith.std, fitStd]; omega)) fun _ => ?_ | refine Need.mk (by exact ⟨by decide, by decide⟩) fun _ => ?_)
        refine ⟨⟨i + 1, fun j => Arith.std.upd i.toNat j ?v2 (g j), by omega, by omega, ?h2⟩, [0, 1, 2, 3, 4], (by show 64 - (i + 1).toNat < 64 - i.toNat; omega), ?st⟩
        case st => refine ⟨rfl, by decide, ?_, ?_⟩ <;> repeat' (first | exact trivial | exact rfl | apply And.intro)
        case h2 =>
          intro j hj
          show (if i.toNat = j then _ else g j) = _
          by_cases hji : i.toNat = j
          · rw [if_pos hji, ← hji, schW_hi c (by omega) (by omega)]
            show addW (addW (addW (Arith.std.sel (i - 16).toNat ((List.range 64).map g)) (slide3 (Arith.std.sel (i - 15).toNat ((List.range 64).map g)) 7 18 3)) (Arith.std.sel (i - 7).toNat ((List.range 64).map g))) (slide3 (Arith.std.sel (i - 2).toNat ((List.range 64).map g)) 17 19 10) = _
            rw [sel_range g 64 _ (by omega), sel_range g 64 _ (by omega), sel_range g 64 _ (by omega), sel_range g 64 _ (by omega), hall _ (by omega), hall _ (by omega), hall _ (by omega), hall _ (by omega)]
            rw [show (i - 16).toNat = i.toNat - 16 by omega, show (i - 15).toNat = i.toNat - 15 by omega, show (i - 7).toNat = i.toNat - 7 by omega, show (i - 2).toNat = i.toNat - 2 by omega]
          · rw [if_neg hji]
            exact hall j (by omega)
    have hnlt : ¬ i < 64 := of_decide_eq_false (p := i < 64) h
    have hq : ∀ k : Nat, k < 64 → g k = schW c k := fun k hk => hall k (by omega)
    clear hall
    show Runs Tryd.prog 1 (.loop _) _ _
    refine loop_ruleR (N := env (lft Tryd.prog 1) 0 .std tbY [(109, appPure sRTurn)] [(6, [(0, true), (1, true), (2, true), (3, true), (4, true), (5, true), (6, true), (7, true), (8, true), (9, true), (10, true), (11, true), (12, true), (13, true), (14, true), (15, true), (16, true), (17, true), (18, true), (19, true), (20, true), (21, true), (22, true), (23, true), (24, true), (25, true), (26, true), (27, true), (28, true), (29, true), (30, true), (31, true), (32, true), (33, true), (34, true), (1035, false), (35, false)]), (7, [(0, true), (1, true), (2, true), (3, true), (4, true), (5, true), (6, true), (7, true), (8, true), (9, true)]), (8, [(0, true), (1, true), (2, true), (3, true), (4, true), (5, true), (7, true), (10, true), (11, true), (14, true), (15, true), (16, true), (17, true), (19, true), (21, true), (24, true), (25, true), (6, false), (8, false), (9, true), (12, true), (13, true), (18, true), (20, false), (22, false), (23, true), (26, true), (27, true), (28, true), (1029, false), (29, false)]), (14, [(0, true), (1, true), (2, true), (4, true), (7, true), (11, true), (12, true), (13, true), (14, true), (15, true), (16, true), (17, true), (18, true), (19, true), (20, true), (22, true), (23, true), (24, true), (26, true), (27, true), (28, true), (3, false), (5, false), (6, true), (8, false), (9, true), (10, true), (21, true), (25, true), (29, true), (30, true)]), (16, [(0, true), (2, true), (5, true), (8, true), (9, true), (10, true), (11, true), (12, true), (13, true), (14, true), (15, true), (16, true), (17, true), (18, true), (19, true), (20, true), (21, true), (22, true), (1, false), (3, false), (4, true), (6, false), (7, true), (23, true), (24, true)]), (21, [(0, true), (1, true), (2, true), (3, true), (4, true), (5, true), (6, true), (7, true), (1008, false), (8, false)])]) rfl tbY_ok hC (fun c st K _ h => h) (by kernel_rfl) [] (X := LM c ⟨ha, hb, hc', hd, he, hf, hg, hh⟩)
      (S := fun x => ⟨[.any, .any, .any, .c (.ptr 1 0), .any, .c (.ptr 2 0), .c (.ptr 3 0), .c (.ptr 4 0), .any, .any, .any, .c (.ptr 5 0), .c (.int .i64 x.i)] ++ List.replicate 179 .any, [.elems 5 1 64 (fun i => [.int .u8 (byteN c i)]), .cells 86 [.int .u32 ha, .int .u32 hb, .int .u32 hc', .int .u32 hd, .int .u32 he, .int .u32 hf, .int .u32 hg, .int .u32 hh], .cells 90 [.int .u32 (kOf 0), .int .u32 (kOf 1), .int .u32 (kOf 2), .int .u32 (kOf 3), .int .u32 (kOf 4), .int .u32 (kOf 5), .int .u32 (kOf 6), .int .u32 (kOf 7), .int .u32 (kOf 8), .int .u32 (kOf 9), .int .u32 (kOf 10), .int .u32 (kOf 11), .int .u32 (kOf 12), .int .u32 (kOf 13), .int .u32 (kOf 14), .int .u32 (kOf 15), .int .u32 (kOf 16), .int .u32 (kOf 17), .int .u32 (kOf 18), .int .u32 (kOf 19), .int .u32 (kOf 20), .int .u32 (kOf 21), .int .u32 (kOf 22), .int .u32 (kOf 23), .int .u32 (kOf 24), .int .u32 (kOf 25), .int .u32 (kOf 26), .int .u32 (kOf 27), .int .u32 (kOf 28), .int .u32 (kOf 29), .int .u32 (kOf 30), .int .u32 (kOf 31), .int .u32 (kOf 32), .int .u32 (kOf 33), .int .u32 (kOf 34), .int .u32 (kOf 35), .int .u32 (kOf 36), .int .u32 (kOf 37), .int .u32 (kOf 38), .int .u32 (kOf 39), .int .u32 (kOf 40), .int .u32 (kOf 41), .int .u32 (kOf 42), .int .u32 (kOf 43), .int .u32 (kOf 44), .int .u32 (kOf 45), .int .u32 (kOf 46), .int .u32 (kOf 47), .int .u32 (kOf 48), .int .u32 (kOf 49), .int .u32 (kOf 50), .int .u32 (kOf 51), .int .u32 (kOf 52), .int .u32 (kOf 53), .int .u32 (kOf 54), .int .u32 (kOf 55), .int .u32 (kOf 56), .int .u32 (kOf 57), .int .u32 (kOf 58), .int .u32 (kOf 59), .int .u32 (kOf 60), .int .u32 (kOf 61), .int .u32 (kOf 62), .int .u32 (kOf 63)], .cells 86 [.int .u32 0, .int .u32 0, .int .u32 0, .int .u32 0, .int .u32 0, .int .u32 0, .int .u32 0, .int .u32 0], .cells 90 [.int .u32 (g 0), .int .u32 (g 1), .int .u32 (g 2), .int .u32 (g 3), .int .u32 (g 4), .int .u32 (g 5), .int .u32 (g 6), .int .u32 (g 7), .int .u32 (g 8), .int .u32 (g 9), .int .u32 (g 10), .int .u32 (g 11), .int .u32 (g 12), .int .u32 (g 13), .int .u32 (g 14), .int .u32 (g 15), .int .u32 (g 16), .int .u32 (g 17), .int .u32 (g 18), .int .u32 (g 19), .int .u32 (g 20), .int .u32 (g 21), .int .u32 (g 22), .int .u32 (g 23), .int .u32 (g 24), .int .u32 (g 25), .int .u32 (g 26), .int .u32 (g 27), .int .u32 (g 28), .int .u32 (g 29), .int .u32 (g 30), .int .u32 (g 31), .int .u32 (g 32), .int .u32 (g 33), .int .u32 (g 34), .int .u32 (g 35), .int .u32 (g 36), .int .u32 (g 37), .int .u32 (g 38), .int .u32 (g 39), .int .u32 (g 40), .int .u32 (g 41), .int .u32 (g 42), .int .u32 (g 43), .int .u32 (g 44), .int .u32 (g 45), .int .u32 (g 46), .int .u32 (g 47), .int .u32 (g 48), .int .u32 (g 49), .int .u32 (g 50), .int .u32 (g 51), .int .u32 (g 52), .int .u32 (g 53), .int .u32 (g 54), .int .u32 (g 55), .int .u32 (g 56), .int .u32 (g 57), .int .u32 (g 58), .int .u32 (g 59), .int .u32 (g 60), .int .u32 (g 61), .int .u32 (g 62), .int .u32 (g 63)], .cells 86 [.int .u32 x.s.a, .int .u32 x.s.b, .int .u32 x.s.c, .int .u32 x.s.d, .int .u32 x.s.e, .int .u32 x.s.f, .int .u32 x.s.g, .int .u32 x.s.h]]⟩) (μ := fun x => 64 - x.i.toNat) ⟨0, ⟨ha, hb, hc', hd, he, hf, hg, hh⟩, by omega, by omega, rfl⟩ (by kernel_rfl) [0, 1, 2, 3, 4, 5] ?_ ?_
    · refine ⟨rfl, by decide, ?_, ?_⟩ <;> repeat' (first | exact trivial | exact rfl | apply And.intro)
    rintro ⟨i, ⟨a, b, cc, d, e, f, gg, h⟩, hi0, hin, hs⟩
    unfold sRTurn
    generalize hg0 : schW = g0
    generalize hg1 : turn3 = g1
    generalize hg2 : kOf = g2
    generalize hg3 : mixS = g3
    generalize hg4 : rturnPre = g4
    generalize hg5 : byteN = g5
    generalize hg6 : rot = g6
    generalize hL : lft Tryd.prog _ = L
    generalize hA : Arith.std = A
    cbv
    subst hA hg0 hg1 hg2 hg3 hg4 hg5 hg6 hL
    replace hi0 : 0 ≤ i := hi0
    replace hin : i ≤ 64 := hin
    refine Ife.mk (fun hlt => ?_) (fun hlt => ?_)
    · replace hlt : i < 64 := of_decide_eq_true (p := i < 64) hlt
      repeat (first | refine Need.mk (by first | exact trivial | (simp only [Arith.std, fitStd]; omega) | (simp [Arith.std, fitStd]; omega)) fun _ => ?_ | refine Need.mk (by exact ⟨by decide, by decide⟩) fun _ => ?_)
      refine ⟨⟨i + 1, rnd ⟨a, b, cc, d, e, f, gg, h⟩ (Arith.std.sel i.toNat ((List.range 64).map kOf)) (Arith.std.sel i.toNat ((List.range 64).map g)), by omega, by omega, ?h2⟩, [0, 1, 2, 3, 4, 5], (by show 64 - (i + 1).toNat < 64 - i.toNat; omega), ?st⟩
      case st => refine ⟨rfl, by decide, ?_, ?_⟩ <;> repeat' (first | exact trivial | exact rfl | apply And.intro)
      case h2 =>
        rw [sel_range kOf 64 _ (by omega), sel_range g 64 _ (by omega), hq _ (by omega), show (i + 1).toNat = i.toNat + 1 by omega, hs]
        rfl
    replace hlt : ¬ i < 64 := of_decide_eq_false (p := i < 64) hlt
    rw [show i.toNat = 64 by omega] at hs
    generalize hR : rounds c ⟨ha, hb, hc', hd, he, hf, hg, hh⟩ 64 = R at hs
    subst hs
    show Runs Tryd.prog 1 (.loop _) _ _
    refine loop_ruleR (N := env (lft Tryd.prog 1) 0 .std tbY [(109, appPure sRTurn)] [(6, [(0, true), (1, true), (2, true), (3, true), (4, true), (5, true), (6, true), (7, true), (8, true), (9, true), (10, true), (11, true), (12, true), (13, true), (14, true), (15, true), (16, true), (17, true), (18, true), (19, true), (20, true), (21, true), (22, true), (23, true), (24, true), (25, true), (26, true), (27, true), (28, true), (29, true), (30, true), (31, true), (32, true), (33, true), (34, true), (1035, false), (35, false)]), (7, [(0, true), (1, true), (2, true), (3, true), (4, true), (5, true), (6, true), (7, true), (8, true), (9, true)]), (8, [(0, true), (1, true), (2, true), (3, true), (4, true), (5, true), (7, true), (10, true), (11, true), (14, true), (15, true), (16, true), (17, true), (19, true), (21, true), (24, true), (25, true), (6, false), (8, false), (9, true), (12, true), (13, true), (18, true), (20, false), (22, false), (23, true), (26, true), (27, true), (28, true), (1029, false), (29, false)]), (14, [(0, true), (1, true), (2, true), (4, true), (7, true), (11, true), (12, true), (13, true), (14, true), (15, true), (16, true), (17, true), (18, true), (19, true), (20, true), (22, true), (23, true), (24, true), (26, true), (27, true), (28, true), (3, false), (5, false), (6, true), (8, false), (9, true), (10, true), (21, true), (25, true), (29, true), (30, true)]), (16, [(0, true), (2, true), (5, true), (8, true), (9, true), (10, true), (11, true), (12, true), (13, true), (14, true), (15, true), (16, true), (17, true), (18, true), (19, true), (20, true), (21, true), (22, true), (1, false), (3, false), (4, true), (6, false), (7, true), (23, true), (24, true)]), (21, [(0, true), (1, true), (2, true), (3, true), (4, true), (5, true), (6, true), (7, true), (1008, false), (8, false)])]) rfl tbY_ok hC (fun c st K _ h => h) (by kernel_rfl) [] (X := LFill 8 (fun j => addW (S8.at ⟨ha, hb, hc', hd, he, hf, hg, hh⟩ j) (S8.at ⟨a, b, cc, d, e, f, gg, h⟩ j)) (fun j => S8.at ⟨ha, hb, hc', hd, he, hf, hg, hh⟩ j))
      (S := fun x => ⟨[.any, .any, .any, .c (.ptr 1 0), .any, .any, .c (.ptr 3 0), .any, .any, .any, .any, .c (.ptr 5 0), .any, .any, .any, .any, .any, .c (.int .i64 x.i)] ++ List.replicate 174 .any, [.elems 5 1 64 (fun i => [.int .u8 (byteN c i)]), .cells 86 [.int .u32 (x.g 0), .int .u32 (x.g 1), .int .u32 (x.g 2), .int .u32 (x.g 3), .int .u32 (x.g 4), .int .u32 (x.g 5), .int .u32 (x.g 6), .int .u32 (x.g 7)], .dead, .cells 86 [.int .u32 0, .int .u32 0, .int .u32 0, .int .u32 0, .int .u32 0, .int .u32 0, .int .u32 0, .int .u32 0], .dead, .cells 86 [.int .u32 a, .int .u32 b, .int .u32 cc, .int .u32 d, .int .u32 e, .int .u32 f, .int .u32 gg, .int .u32 h]]⟩) (μ := fun x => 8 - x.i.toNat) ⟨0, (fun j => S8.at ⟨ha, hb, hc', hd, he, hf, hg, hh⟩ j), by omega, by omega, fun j hj => absurd hj (by omega), fun j _ _ => rfl⟩ (by kernel_rfl) [0, 1, 2, 3, 4, 5] ?_ ?_
    · refine ⟨rfl, by decide, ?_, ?_⟩ <;> repeat' (first | exact trivial | exact rfl | apply And.intro)
    rintro ⟨i2, g2, hi02, hin2, hlo2, hhi2⟩
    unfold sRTurn
    generalize hg0 : schW = g0
    generalize hg1 : turn3 = g1
    generalize hg2 : kOf = g2
    generalize hg3 : mixS = g3
    generalize hg4 : rturnPre = g4
    generalize hg5 : byteN = g5
    generalize hg6 : rot = g6
    generalize hL : lft Tryd.prog _ = L
    generalize hA : Arith.std = A
    cbv
    subst hA hg0 hg1 hg2 hg3 hg4 hg5 hg6 hL
    replace hi02 : 0 ≤ i2 := hi02
    replace hin2 : i2 ≤ ((8 : Nat) : Int) := hin2
    replace hlo2 : ∀ j : Nat, (j : Int) < i2 → g2 j = (fun j => addW (S8.at ⟨ha, hb, hc', hd, he, hf, hg, hh⟩ j) (S8.at ⟨a, b, cc, d, e, f, gg, h⟩ j)) j := hlo2
    replace hhi2 : ∀ j : Nat, i2 ≤ (j : Int) → j < 8 → g2 j = (fun j => S8.at ⟨ha, hb, hc', hd, he, hf, hg, hh⟩ j) j := hhi2
    refine Ife.mk (fun hlt2 => ?_) (fun hlt2 => ?_)
    · replace hlt2 : i2 < (8 : Int) := of_decide_eq_true (p := i2 < (8 : Int)) hlt2
      repeat refine Need.mk (by first | exact trivial | (simp only [Arith.std, fitStd]; omega) | (simp [Arith.std, fitStd]; omega)) fun _ => ?_
      refine ⟨⟨i2 + 1, fun j => Arith.std.upd (i2.toNat) (j) ?fv2 (g2 j), by omega, by omega, ?h2, ?h3⟩, [0, 1, 2, 3, 4, 5], (by show 8 - (i2 + 1).toNat < 8 - i2.toNat; omega), ?st⟩
      case st => refine ⟨rfl, by decide, ?_, ?_⟩ <;> repeat' (first | exact trivial | exact rfl | apply And.intro)
      case h3 =>
        intro j hj hj2
        show (if i2.toNat = j then _ else g2 j) = _
        rw [if_neg (by omega)]
        exact hhi2 j (by omega) hj2
      case h2 =>
        intro j hj
        show (if i2.toNat = j then _ else g2 j) = _
        by_cases hji : i2.toNat = j
        · rw [if_pos hji]
          obtain rfl : j = i2.toNat := by omega
          clear hji hj
          show addW (Arith.std.sel i2.toNat [g2 0, g2 1, g2 2, g2 3, g2 4, g2 5, g2 6, g2 7]) (Arith.std.sel i2.toNat [a, b, cc, d, e, f, gg, h]) = _
          rw [sel8 g2 _ (by omega), hhi2 _ (by omega) (by omega)]
          rfl
        · rw [if_neg hji]
          exact hlo2 j (by omega)
    · replace hlt2 : ¬ i2 < (8 : Int) := of_decide_eq_false (p := i2 < (8 : Int)) hlt2
      have hq2 : ∀ k : Nat, k < 8 → g2 k = (fun j => addW (S8.at ⟨ha, hb, hc', hd, he, hf, hg, hh⟩ j) (S8.at ⟨a, b, cc, d, e, f, gg, h⟩ j)) k := fun k hk => hlo2 k (by omega)
      have hm : mixS ⟨ha, hb, hc', hd, he, hf, hg, hh⟩ c = ⟨addW ha a, addW hb b, addW hc' cc, addW hd d, addW he e, addW hf f, addW hg gg, addW hh h⟩ := by
        unfold mixS
        rw [hR]
      rw [hm]
      rw [hq2 0 (by decide), hq2 1 (by decide), hq2 2 (by decide), hq2 3 (by decide), hq2 4 (by decide), hq2 5 (by decide), hq2 6 (by decide), hq2 7 (by decide)]
      exact ⟨[0], ⟨rfl, by repeat' (first | exact trivial | exact rfl | apply And.intro), by decide, rfl, by repeat' (first | exact trivial | exact rfl | apply And.intro)⟩⟩

end Go.Proofs.YtophhppklaofaaaDoor.Vx
end

section
/- The sum of texts, by the walker. -/
namespace Go.Proofs.YtophhppklaofaaaDoor.Vx
open Go.RowKit Sha
set_option linter.unusedVariables false
set_option linter.unusedSimpArgs false
/-- The chunks, so far. -/
structure LB (p : List UInt8) where
  k : Nat
  l : List UInt8
  s : S8
  h1 : k ≤ p.length / 64
  h2 : l = p.drop (64 * k)
  h3 : s = blocks k iv p
theorem sel8S (s : S8) (i : Nat) : Arith.std.sel i [s.a, s.b, s.c, s.d, s.e, s.f, s.g, s.h] = s.at i := rfl
theorem out_int (s : S8) (i : Int) (h0 : 0 ≤ i) (h1 : i < 32) : IntKind.wrap .u8 ((s.at (IntKind.wrap .i64 (i.tdiv 4)).toNat).fdiv (2 ^ (min (24 - i.tmod 4 * 8).toNat 32))) = outS s i.toNat := by
  have key : ∀ j : Fin 32, (IntKind.wrap .i64 ((j.1 : Int).tdiv 4)).toNat = j.1 / 4 ∧ min (24 - (j.1 : Int).tmod 4 * 8).toNat 32 = 24 - 8 * (j.1 % 4) := by decide +kernel
  obtain ⟨h2, h3⟩ := key ⟨i.toNat, by omega⟩
  simp only at h2 h3
  rw [show ((i.toNat : Nat) : Int) = i by omega] at h2 h3
  rw [h2, h3]
  rfl
theorem zs_int (n : Nat) : ((119 - (n : Int).tmod 64).tmod 64).toNat = zs n := by
  unfold zs
  have h1 : (n : Int).tmod 64 = ((n % 64 : Nat) : Int) := by rw [Int.tmod_eq_emod_of_nonneg (by omega)]; omega
  rw [h1, Int.tmod_eq_emod_of_nonneg (by omega)]
  omega
theorem zs_lt (n : Nat) : 0 ≤ (119 - (n : Int).tmod 64).tmod 64 ∧ (119 - (n : Int).tmod 64).tmod 64 < 64 := by
  have h1 : (n : Int).tmod 64 = ((n % 64 : Nat) : Int) := by rw [Int.tmod_eq_emod_of_nonneg (by omega)]; omega
  rw [h1, Int.tmod_eq_emod_of_nonneg (by omega)]
  omega
theorem quo4 (i : Int) (h0 : 0 ≤ i) (h1 : i < 32) : 0 ≤ IntKind.wrap .i64 (i.tdiv 4) ∧ IntKind.wrap .i64 (i.tdiv 4) < 8 ∧ 0 ≤ i.tmod 4 ∧ i.tmod 4 < 4 := by
  have key : ∀ j : Fin 32, 0 ≤ IntKind.wrap .i64 ((j.1 : Int).tdiv 4) ∧ IntKind.wrap .i64 ((j.1 : Int).tdiv 4) < 8 ∧ 0 ≤ (j.1 : Int).tmod 4 ∧ (j.1 : Int).tmod 4 < 4 := by decide +kernel
  have := key ⟨i.toNat, by omega⟩
  simp only at this
  rw [show ((i.toNat : Nat) : Int) = i by omega] at this
  exact this
theorem pad_div (l : List UInt8) : 64 * ((pad l).length / 64) = (pad l).length := by have := pad_mod l; omega
def sumPre (gg sz n : Nat) (get : Nat → List CV) (ty one m : Nat) (gets : Nat → List CV) : Prop := KsAt gg sz n get ∧ ty = 9 ∧ one = 1 ∧ StrsAt m gets ∧ m ≤ 140737488355328 ∧ (joinG m gets).length ≤ 140737488350000
def sSum : SpecF
  | [.c (.row 1)], [.glob gg sz n get, .elems ty one m gets] => some (sumPre gg sz n get ty one m gets, .agg [.int .u8 (sumI (joinG m gets) 0), .int .u8 (sumI (joinG m gets) 1), .int .u8 (sumI (joinG m gets) 2), .int .u8 (sumI (joinG m gets) 3), .int .u8 (sumI (joinG m gets) 4), .int .u8 (sumI (joinG m gets) 5), .int .u8 (sumI (joinG m gets) 6), .int .u8 (sumI (joinG m gets) 7), .int .u8 (sumI (joinG m gets) 8), .int .u8 (sumI (joinG m gets) 9), .int .u8 (sumI (joinG m gets) 10), .int .u8 (sumI (joinG m gets) 11), .int .u8 (sumI (joinG m gets) 12), .int .u8 (sumI (joinG m gets) 13), .int .u8 (sumI (joinG m gets) 14), .int .u8 (sumI (joinG m gets) 15), .int .u8 (sumI (joinG m gets) 16), .int .u8 (sumI (joinG m gets) 17), .int .u8 (sumI (joinG m gets) 18), .int .u8 (sumI (joinG m gets) 19), .int .u8 (sumI (joinG m gets) 20), .int .u8 (sumI (joinG m gets) 21), .int .u8 (sumI (joinG m gets) 22), .int .u8 (sumI (joinG m gets) 23), .int .u8 (sumI (joinG m gets) 24), .int .u8 (sumI (joinG m gets) 25), .int .u8 (sumI (joinG m gets) 26), .int .u8 (sumI (joinG m gets) 27), .int .u8 (sumI (joinG m gets) 28), .int .u8 (sumI (joinG m gets) 29), .int .u8 (sumI (joinG m gets) 30), .int .u8 (sumI (joinG m gets) 31)], [.dead, .dead])
  | _, _ => none

set_option maxRecDepth 100000 in
set_option maxHeartbeats 2000000 in
theorem sumP : Fn Tryd.prog 17 [0] [(9, 1)] sSum := by
  have hC : CtsOk Tryd.prog [(70, appFn [] [(9, 1)] sJoin), (71, appPure sRepeat), (72, appPure sLen8), (73, appPure sBegin), (74, appFn [0] [] sMix)] := CtsOk.cons (Fn.ct joinP) <| CtsOk.cons (Pure.ct repeatP) <| CtsOk.cons (Pure.ct lengthP) <| CtsOk.cons (Pure.ct beginP) <| CtsOk.cons (Fn.ct mixP) <| CtsOk.nil _
  refine Fn.of (E := tbC) [] 0 [(7, [(0, true), (1, true), (2, true), (3, false), (1004, false), (4, false)])] tbC_ok hC (by kernel_rfl) Tryd.func17 rfl rfl rfl (by kernel_rfl) (by kernel_rfl) 2 5 1 ?_ ?_
  · intro args h pre r h' hs
    unfold sSum at hs
    split at hs
    · cases hs; exact ⟨rfl, rfl, Nat.le_of_ble_eq_true rfl⟩
    · cases hs
  · intro args h pre r h' hs hp
    unfold sSum at hs
    split at hs
    rotate_left
    · cases hs
    rename_i gg sz n get ty one m gets
    cases hs
    obtain ⟨hK, rfl, rfl, hst, hm, hlen⟩ := hp
    refine ⟨[.glob 0 1 64 (fun i => [.int .u32 (kOf i)]), .elems 9 1 m gets], ⟨hK.same.1, ⟨rfl, rfl, rfl, fun _ _ => rfl⟩, trivial⟩, ?_⟩
    clear hK
    unfold sJoin sRepeat sLen8 sBegin sMix
    generalize hg0 : joinPre = g0
    generalize hg1 : repPre = g1
    generalize hg2 : lenPre = g2
    generalize hg3 : joinG = g3
    generalize hg4 : StrsAt = g4
    generalize hg5 : KsAt = g5
    generalize hg6 : len8 = g6
    generalize hg7 : kOf = g7
    generalize hg8 : mixS = g8
    generalize hg9 : iv = g9
    generalize hg10 : (List.replicate : Nat → UInt8 → List UInt8) = g10
    generalize hg11 : (List.length : List UInt8 → Nat) = g11
    generalize hg12 : sumI = g12
    generalize hg13 : (List.take : Nat → List UInt8 → List UInt8) = g13
    generalize hg14 : (List.drop : Nat → List UInt8 → List UInt8) = g14
    generalize hL : lft Tryd.prog _ = L
    generalize hA : Arith.std = A
    cbv
    subst hA hg0 hg1 hg2 hg3 hg4 hg5 hg6 hg7 hg8 hg9 hg10 hg11 hg12 hg13 hg14 hL
    refine Need.mk ⟨rfl, rfl, rfl, hst, hm, by omega⟩ fun _ => ?_
    generalize hJ : joinG m gets = J at hlen
    have hJ' := Lib.hid hJ
    clear hst hJ
    have hz := zs_int J.length
    have hz2 : 0 ≤ (119 - (J.length : Int).tmod 64).tmod 64 ∧ (119 - (J.length : Int).tmod 64).tmod 64 < 64 := zs_lt J.length
    refine Need.mk (by show (64 : Int) ≠ 0; decide) fun _ => Need.mk (by have := Int.tmod_lt_of_pos (J.length : Int) (b := 64) (by decide); have := Int.tmod_nonneg (a := (J.length : Int)) 64 (by omega); show fitStd .i64 (119 - (J.length : Int).tmod 64); unfold fitStd; omega) fun _ => Need.mk (by show (64 : Int) ≠ 0; decide) fun _ => ?_
    refine Need.mk ⟨rfl, hz2.1, by have := hz2.2; show (119 - (J.length : Int).tmod 64).tmod 64 ≤ 1000; omega⟩ fun _ => ?_
    have hrl : (List.replicate ((119 - (J.length : Int).tmod 64).tmod 64).toNat (0 : UInt8)).length ≤ 64 := by rw [List.length_replicate]; omega
    refine Need.mk (by show (1 : Int) + ((List.replicate ((119 - (J.length : Int).tmod 64).tmod 64).toNat (0 : UInt8)).length : Int) ≤ 9223372036854775807; omega) fun _ => ?_
    refine Need.mk ⟨by show (0 : Int) ≤ (J.length : Int); omega, by show (J.length : Int) ≤ 9223372036854775807; omega⟩ fun _ => ?_
    have hl8 := len8_len J.length
    refine Need.mk (by show ((([128] ++ List.replicate ((119 - (J.length : Int).tmod 64).tmod 64).toNat (0 : UInt8)) : List UInt8).length : Int) + ((len8 J.length).length : Int) ≤ 9223372036854775807; rw [List.length_append, hl8, List.length_singleton]; omega) fun _ => ?_
    refine Need.mk (by show (J.length : Int) + ((([128] ++ List.replicate ((119 - (J.length : Int).tmod 64).tmod 64).toNat (0 : UInt8)) ++ len8 J.length : List UInt8).length : Int) ≤ 9223372036854775807; rw [List.length_append, List.length_append, hl8, List.length_singleton]; omega) fun _ => ?_
    refine Need.mk trivial fun _ => ?_
    have hpl := pad_len J
    have hpm := pad_mod J
    have hpd := pad_div J
    have hzl : zs J.length < 64 := by unfold zs; omega
    show Runs Tryd.prog 2 (.loop _) _ _
    refine loop_ruleR (N := env (lft Tryd.prog 2) 0 .std tbC [(70, appFn [] [(9, 1)] sJoin), (71, appPure sRepeat), (72, appPure sLen8), (73, appPure sBegin), (74, appFn [0] [] sMix)] [(7, [(0, true), (1, true), (2, true), (3, false), (1004, false), (4, false)])]) rfl tbC_ok hC (fun c st K _ h => h) (by kernel_rfl) [0] (X := LB (pad J))
      (S := fun x => ⟨[.any, .any, .c (.ptr 2 0), .c (.str x.l), .any, .c (.ptr 4 0)] ++ List.replicate 43 .any, [.glob 0 1 64 (fun i => [.int .u32 (kOf i)]), .dead, .cells 24 [.int .u8 0, .int .u8 0, .int .u8 0, .int .u8 0, .int .u8 0, .int .u8 0, .int .u8 0, .int .u8 0, .int .u8 0, .int .u8 0, .int .u8 0, .int .u8 0, .int .u8 0, .int .u8 0, .int .u8 0, .int .u8 0, .int .u8 0, .int .u8 0, .int .u8 0, .int .u8 0, .int .u8 0, .int .u8 0, .int .u8 0, .int .u8 0, .int .u8 0, .int .u8 0, .int .u8 0, .int .u8 0, .int .u8 0, .int .u8 0, .int .u8 0, .int .u8 0], .dead, .cells 86 [.int .u32 x.s.a, .int .u32 x.s.b, .int .u32 x.s.c, .int .u32 x.s.d, .int .u32 x.s.e, .int .u32 x.s.f, .int .u32 x.s.g, .int .u32 x.s.h]]⟩) (μ := fun x => x.l.length) ⟨0, J ++ (([128] ++ List.replicate ((119 - (J.length : Int).tmod 64).tmod 64).toNat 0) ++ len8 J.length), iv, by omega, (by rw [hz]; rfl), rfl⟩ (by kernel_rfl) [0, 1, 2, 3, 4] ?_ ?_
    · refine ⟨rfl, by decide, ?_, ?_⟩ <;> repeat' (first | exact trivial | exact rfl | apply And.intro)
    rintro ⟨k, l, s, hk, hl, hs⟩
    unfold sJoin sRepeat sLen8 sBegin sMix
    generalize hg0 : joinPre = g0
    generalize hg1 : repPre = g1
    generalize hg2 : lenPre = g2
    generalize hg3 : joinG = g3
    generalize hg4 : StrsAt = g4
    generalize hg5 : KsAt = g5
    generalize hg6 : len8 = g6
    generalize hg7 : kOf = g7
    generalize hg8 : mixS = g8
    generalize hg9 : iv = g9
    generalize hg10 : (List.replicate : Nat → UInt8 → List UInt8) = g10
    generalize hg11 : (List.length : List UInt8 → Nat) = g11
    generalize hg12 : sumI = g12
    generalize hg13 : (List.take : Nat → List UInt8 → List UInt8) = g13
    generalize hg14 : (List.drop : Nat → List UInt8 → List UInt8) = g14
    generalize hL : lft Tryd.prog _ = L
    generalize hA : Arith.std = A
    cbv
    subst hA hg0 hg1 hg2 hg3 hg4 hg5 hg6 hg7 hg8 hg9 hg10 hg11 hg12 hg13 hg14 hL
    replace hk : k ≤ (pad J).length / 64 := hk
    replace hl : l = (pad J).drop (64 * k) := hl
    replace hs : s = blocks k iv (pad J) := hs
    have hll : l.length = (pad J).length - 64 * k := by rw [hl, List.length_drop]
    refine Ife.mk (fun hne => ?_) (fun hne => ?_)
    · have hne : l ≠ [] := fun h => by subst h; cases hne
      have h64 : 64 ≤ l.length := by
        have : 0 < l.length := List.length_pos_iff.2 hne
        omega
      refine Need.mk (by show (0 : Int) ≤ 0 ∧ (0 : Int) ≤ 64 ∧ (64 : Int) ≤ (l.length : Int); omega) fun _ => ?_
      refine Need.mk ⟨ksAt_self, by show ((l.take 64).drop 0).length = 64; rw [List.drop_zero, List.length_take]; omega⟩ fun _ => ?_
      refine Need.mk (by show (0 : Int) ≤ 64 ∧ (64 : Int) ≤ (l.length : Int) ∧ (l.length : Int) ≤ (l.length : Int); omega) fun _ => ?_
      refine ⟨⟨k + 1, (l.take l.length).drop 64, mixS s ((l.take 64).drop 0), by omega, ?h2, ?h3⟩, [0, 1, 2, 3, 4], (by show ((l.take l.length).drop 64).length < l.length; rw [List.length_drop, List.length_take]; omega), ?st⟩
      case st => refine ⟨rfl, by decide, ?_, ?_⟩ <;> repeat' (first | exact trivial | exact rfl | apply And.intro)
      case h2 =>
        rw [List.take_length, hl, List.drop_drop]
        first | rfl | (congr 1; omega)
      case h3 =>
        rw [List.drop_zero, hs, hl]
        have := blocks_add k 1 iv (pad J)
        rw [this]
        rfl
    · have hne : l = [] := by
        cases l with
        | nil => rfl
        | cons x l => cases hne
      have hk2 : k = (pad J).length / 64 := by
        have : l.length = 0 := by rw [hne]; rfl
        omega
      have hsE : s = endS J := by rw [hs, hk2]; rfl
      clear hs hl hll hne hk2 hk
      generalize hE : endS J = E at hsE
      subst hsE
      show Runs Tryd.prog 2 (.loop _) _ _
      refine loop_ruleR (N := env (lft Tryd.prog 2) 0 .std tbY [(70, appFn [] [(9, 1)] sJoin), (71, appPure sRepeat), (72, appPure sLen8), (73, appPure sBegin), (74, appFn [0] [] sMix)] [(7, [(0, true), (1, true), (2, true), (3, false), (1004, false), (4, false)])]) rfl tbY_ok hC (fun c st K _ h => h) (by kernel_rfl) [] (X := LFill 32 (outS s) (fun _ => 0))
        (S := fun x => ⟨[.any, .any, .c (.ptr 2 0), .any, .any, .c (.ptr 4 0), .c (.ptr 5 0), .any, .any, .any, .any, .any, .any, .any, .any, .any, .any, .any, .any, .any, .any, .any, .any, .any, .any, .any, .any, .any, .any, .any, .any, .any, .c (.int .i64 x.i)] ++ List.replicate 16 .any, [.glob 0 1 64 (fun i => [.int .u32 (kOf i)]), .dead, .cells 24 [.int .u8 0, .int .u8 0, .int .u8 0, .int .u8 0, .int .u8 0, .int .u8 0, .int .u8 0, .int .u8 0, .int .u8 0, .int .u8 0, .int .u8 0, .int .u8 0, .int .u8 0, .int .u8 0, .int .u8 0, .int .u8 0, .int .u8 0, .int .u8 0, .int .u8 0, .int .u8 0, .int .u8 0, .int .u8 0, .int .u8 0, .int .u8 0, .int .u8 0, .int .u8 0, .int .u8 0, .int .u8 0, .int .u8 0, .int .u8 0, .int .u8 0, .int .u8 0], .dead, .cells 86 [.int .u32 s.a, .int .u32 s.b, .int .u32 s.c, .int .u32 s.d, .int .u32 s.e, .int .u32 s.f, .int .u32 s.g, .int .u32 s.h], .cells 24 [.int .u8 (x.g 0), .int .u8 (x.g 1), .int .u8 (x.g 2), .int .u8 (x.g 3), .int .u8 (x.g 4), .int .u8 (x.g 5), .int .u8 (x.g 6), .int .u8 (x.g 7), .int .u8 (x.g 8), .int .u8 (x.g 9), .int .u8 (x.g 10), .int .u8 (x.g 11), .int .u8 (x.g 12), .int .u8 (x.g 13), .int .u8 (x.g 14), .int .u8 (x.g 15), .int .u8 (x.g 16), .int .u8 (x.g 17), .int .u8 (x.g 18), .int .u8 (x.g 19), .int .u8 (x.g 20), .int .u8 (x.g 21), .int .u8 (x.g 22), .int .u8 (x.g 23), .int .u8 (x.g 24), .int .u8 (x.g 25), .int .u8 (x.g 26), .int .u8 (x.g 27), .int .u8 (x.g 28), .int .u8 (x.g 29), .int .u8 (x.g 30), .int .u8 (x.g 31)]]⟩) (μ := fun x => 32 - x.i.toNat) ⟨0, (fun _ => 0), by omega, by omega, fun j hj => absurd hj (by omega), fun j _ _ => rfl⟩ (by kernel_rfl) [0, 1, 2, 3, 4, 5] ?_ ?_
      · refine ⟨rfl, by decide, ?_, ?_⟩ <;> repeat' (first | exact trivial | exact rfl | apply And.intro)
      rintro ⟨i2, g2, hi02, hin2, hlo2, hhi2⟩
      unfold sJoin sRepeat sLen8 sBegin sMix
      generalize hg0 : joinPre = g0
      generalize hg1 : repPre = g1
      generalize hg2 : lenPre = g2
      generalize hg3 : joinG = g3
      generalize hg4 : StrsAt = g4
      generalize hg5 : KsAt = g5
      generalize hg6 : len8 = g6
      generalize hg7 : kOf = g7
      generalize hg8 : mixS = g8
      generalize hg9 : iv = g9
      generalize hg10 : (List.replicate : Nat → UInt8 → List UInt8) = g10
      generalize hg11 : (List.length : List UInt8 → Nat) = g11
      generalize hg12 : sumI = g12
      generalize hg13 : (List.take : Nat → List UInt8 → List UInt8) = g13
      generalize hg14 : (List.drop : Nat → List UInt8 → List UInt8) = g14
      generalize hL : lft Tryd.prog _ = L
      generalize hA : Arith.std = A
      cbv
      subst hA hg0 hg1 hg2 hg3 hg4 hg5 hg6 hg7 hg8 hg9 hg10 hg11 hg12 hg13 hg14 hL
      replace hi02 : 0 ≤ i2 := hi02
      replace hin2 : i2 ≤ ((32 : Nat) : Int) := hin2
      replace hlo2 : ∀ j : Nat, (j : Int) < i2 → g2 j = (outS s) j := hlo2
      replace hhi2 : ∀ j : Nat, i2 ≤ (j : Int) → j < 32 → g2 j = (fun _ => 0) j := hhi2
      refine Ife.mk (fun hlt2 => ?_) (fun hlt2 => ?_)
      · replace hlt2 : i2 < (32 : Int) := of_decide_eq_true (p := i2 < (32 : Int)) hlt2
        obtain ⟨q1, q2, q3, q4⟩ := quo4 i2 hi02 hlt2
        repeat refine Need.mk (by first | exact trivial | (simp only [Arith.std, fitStd]; omega) | (simp [Arith.std, fitStd]; omega)) fun _ => ?_
        refine ⟨⟨i2 + 1, fun j => Arith.std.upd (i2.toNat) (j) ?fv2 (g2 j), by omega, by omega, ?h2, ?h3⟩, [0, 1, 2, 3, 4, 5], (by show 32 - (i2 + 1).toNat < 32 - i2.toNat; omega), ?st⟩
        case st => refine ⟨rfl, by decide, ?_, ?_⟩ <;> repeat' (first | exact trivial | exact rfl | apply And.intro)
        case h3 =>
          intro j hj hj2
          show (if i2.toNat = j then _ else g2 j) = _
          rw [if_neg (by omega)]
          exact hhi2 j (by omega) hj2
        case h2 =>
          intro j hj
          show (if i2.toNat = j then _ else g2 j) = _
          by_cases hji : i2.toNat = j
          · rw [if_pos hji]
            obtain rfl : j = i2.toNat := by omega
            clear hji hj
            show IntKind.wrap .u8 ((Arith.std.sel (IntKind.wrap .i64 (i2.tdiv 4)).toNat [s.a, s.b, s.c, s.d, s.e, s.f, s.g, s.h]).fdiv (2 ^ (min (24 - i2.tmod 4 * 8).toNat 32))) = outS s i2.toNat
            rw [sel8S]
            exact out_int s i2 hi02 hlt2
          · rw [if_neg hji]
            exact hlo2 j (by omega)
      · replace hlt2 : ¬ i2 < (32 : Int) := of_decide_eq_false (p := i2 < (32 : Int)) hlt2
        have hq2 : ∀ k : Nat, k < 32 → g2 k = (outS s) k := fun k hk => hlo2 k (by omega)
        have hq3 : ∀ k, k < 32 → g2 k = sumI J k := fun k hk => by rw [hq2 k hk]; unfold sumI; rw [hE]
        rw [hq3 0 (by decide), hq3 1 (by decide), hq3 2 (by decide), hq3 3 (by decide), hq3 4 (by decide), hq3 5 (by decide), hq3 6 (by decide), hq3 7 (by decide), hq3 8 (by decide), hq3 9 (by decide), hq3 10 (by decide), hq3 11 (by decide), hq3 12 (by decide), hq3 13 (by decide), hq3 14 (by decide), hq3 15 (by decide), hq3 16 (by decide), hq3 17 (by decide), hq3 18 (by decide), hq3 19 (by decide), hq3 20 (by decide), hq3 21 (by decide), hq3 22 (by decide), hq3 23 (by decide), hq3 24 (by decide), hq3 25 (by decide), hq3 26 (by decide), hq3 27 (by decide), hq3 28 (by decide), hq3 29 (by decide), hq3 30 (by decide), hq3 31 (by decide)]
        exact ⟨[0, 1], ⟨rfl, by repeat' (first | exact trivial | exact rfl | apply And.intro), by decide, rfl, by repeat' (first | exact trivial | exact rfl | apply And.intro)⟩⟩
    

end Go.Proofs.YtophhppklaofaaaDoor.Vx
end

section
/- The document's sum, by the walker. -/
namespace Go.Proofs.YtophhppklaofaaaDoor.Vx
open Go.RowKit Sha
set_option linter.unusedVariables false
set_option linter.unusedSimpArgs false
structure LZ (s : List UInt8) where
  k : Nat
  l : List UInt8
  h1 : k ≤ zs s.length
  h2 : l = s ++ ([128] ++ List.replicate k 0)
structure LE (s : List UInt8) where
  i : Int
  n : Int
  l : List UInt8
  h0 : -1 ≤ i
  h1 : i ≤ 7
  hn : n = IntKind.wrap .u64 (IntKind.wrap .u64 (s.length : Int) * 8)
  h2 : l = s ++ ([128] ++ List.replicate (zs s.length) 0) ++ (len8 s.length).take (7 - i).toNat
structure LC (p : List UInt8) where
  k : Nat
  a : Int
  s : S8
  h1 : k ≤ p.length / 64
  h2 : a = 64 * (k : Int)
  h3 : s = blocks k iv p
theorem bytesG_cut (l : List UInt8) (a n : Nat) (h : a + n ≤ l.length) : bytesG n (fun i => [.int .u8 (byteN l (a + i))]) = (l.drop a).take n := by
  apply List.ext_getElem
  · simp [bytesG]; omega
  · intro i h1 h2
    simp only [bytesG, List.length_map, List.length_range] at h1
    simp only [bytesG, List.getElem_map, List.getElem_range, List.getElem_take, List.getElem_drop, byteOf, byteN]
    rw [List.getD_eq_getElem?_getD, List.getElem?_eq_getElem (by omega)]
    simp
theorem bytesG_ok (l : List UInt8) (a n : Nat) : BytesG n (fun i => [.int .u8 (byteN l (a + i))]) := fun i hi => ⟨_, rfl⟩
theorem len8_snoc (n k : Nat) (h : k < 8) : (len8 n).take (k + 1) = (len8 n).take k ++ [UInt8.ofNat (lenB n k).toNat] := by
  unfold len8
  rw [List.take_add_one, List.getElem?_map, List.getElem?_range h]
  rfl
def rsumPre (l : List UInt8) : Prop := l.length ≤ 140737488350000
def sRSum : List SV → Option (Prop × SV)
  | [.c (.str s)] => some (rsumPre s, .agg [.int .u8 (sumI (s) 0), .int .u8 (sumI (s) 1), .int .u8 (sumI (s) 2), .int .u8 (sumI (s) 3), .int .u8 (sumI (s) 4), .int .u8 (sumI (s) 5), .int .u8 (sumI (s) 6), .int .u8 (sumI (s) 7), .int .u8 (sumI (s) 8), .int .u8 (sumI (s) 9), .int .u8 (sumI (s) 10), .int .u8 (sumI (s) 11), .int .u8 (sumI (s) 12), .int .u8 (sumI (s) 13), .int .u8 (sumI (s) 14), .int .u8 (sumI (s) 15), .int .u8 (sumI (s) 16), .int .u8 (sumI (s) 17), .int .u8 (sumI (s) 18), .int .u8 (sumI (s) 19), .int .u8 (sumI (s) 20), .int .u8 (sumI (s) 21), .int .u8 (sumI (s) 22), .int .u8 (sumI (s) 23), .int .u8 (sumI (s) 24), .int .u8 (sumI (s) 25), .int .u8 (sumI (s) 26), .int .u8 (sumI (s) 27), .int .u8 (sumI (s) 28), .int .u8 (sumI (s) 29), .int .u8 (sumI (s) 30), .int .u8 (sumI (s) 31)])
  | _ => none

set_option maxRecDepth 100000 in
set_option maxHeartbeats 2000000 in
theorem rsumP : Pure Tryd.prog 19 sRSum := by
  have hC : CtsOk Tryd.prog [(75, appPure sConsts), (76, appFn [] [(5, 1)] sRMix)] := CtsOk.cons (Pure.ct constsP) <| CtsOk.cons (Fn.ct rmixP) <| CtsOk.nil _
  refine Pure.of (E := tbC) (C := [(75, appPure sConsts), (76, appFn [] [(5, 1)] sRMix)]) [] 0 [(14, [(0, true), (1, true), (2, true), (3, true), (4, true), (5, true), (6, true), (7, false), (1008, false), (8, false)])] tbC_ok hC (by kernel_rfl) Tryd.func19 rfl rfl rfl (by kernel_rfl) (by kernel_rfl) ?_ ?_
  · intro args pre r h
    unfold sRSum at h
    split at h
    · cases h; rfl
    · cases h
  · intro args pre r h hp
    unfold sRSum at h
    split at h
    rotate_left
    · cases h
    rename_i s
    cases h
    have hs : s.length ≤ 140737488350000 := hp
    unfold sConsts sRMix
    generalize hg0 : rturnPre = g0
    generalize hg1 : rmixPre = g1
    generalize hg2 : mixS = g2
    generalize hg3 : kOf = g3
    generalize hg4 : k64 = g4
    generalize hg5 : bytesG = g5
    generalize hg6 : byteN = g6
    generalize hg7 : iv = g7
    generalize hg8 : sumI = g8
    generalize hg9 : (List.length : List UInt8 → Nat) = g9
    generalize hL : lft Tryd.prog _ = L
    generalize hA : Arith.std = A
    cbv
    subst hA hg0 hg1 hg2 hg3 hg4 hg5 hg6 hg7 hg8 hg9 hL
    refine Need.mk (by show s.length + 0 ≤ 140737488355328; omega) fun _ => Need.mk (by show (0 : Int) ≤ 128 ∧ (128 : Int) < 256; omega) fun _ => Need.mk (by show s.length + 1 ≤ 140737488355328; omega) fun _ => ?_
    have hpl := pad_len s
    have hpm := pad_mod s
    have hzl : zs s.length < 64 := by unfold zs; omega
    have hzd : zs s.length = (119 - s.length % 64) % 64 := rfl
    show Runs Tryd.prog 0 (.loop _) _ _
    refine loop_ruleR (N := env (lft Tryd.prog 0) 0 .std tbC [(75, appPure sConsts), (76, appFn [] [(5, 1)] sRMix)] [(14, [(0, true), (1, true), (2, true), (3, true), (4, true), (5, true), (6, true), (7, false), (1008, false), (8, false)])]) rfl tbC_ok hC (fun c st K _ h => h) (by kernel_rfl) [] (X := LZ s)
      (S := fun x => ⟨[.c (.str s), .any, .c (.ptr 0 0), .c (.row 1)] ++ List.replicate 67 .any, [.cells 24 [.int .u8 0, .int .u8 0, .int .u8 0, .int .u8 0, .int .u8 0, .int .u8 0, .int .u8 0, .int .u8 0, .int .u8 0, .int .u8 0, .int .u8 0, .int .u8 0, .int .u8 0, .int .u8 0, .int .u8 0, .int .u8 0, .int .u8 0, .int .u8 0, .int .u8 0, .int .u8 0, .int .u8 0, .int .u8 0, .int .u8 0, .int .u8 0, .int .u8 0, .int .u8 0, .int .u8 0, .int .u8 0, .int .u8 0, .int .u8 0, .int .u8 0, .int .u8 0], .bytes 5 x.l]⟩) (μ := fun x => zs s.length - x.k) ⟨0, s ++ [128], by omega, rfl⟩ (by kernel_rfl) [0, 3] ?_ ?_
    · refine ⟨rfl, by decide, ?_, ?_⟩ <;> repeat' (first | exact trivial | exact rfl | apply And.intro)
    rintro ⟨k, l, hk, hl⟩
    unfold sConsts sRMix
    generalize hg0 : rturnPre = g0
    generalize hg1 : rmixPre = g1
    generalize hg2 : mixS = g2
    generalize hg3 : kOf = g3
    generalize hg4 : k64 = g4
    generalize hg5 : bytesG = g5
    generalize hg6 : byteN = g6
    generalize hg7 : iv = g7
    generalize hg8 : sumI = g8
    generalize hg9 : (List.length : List UInt8 → Nat) = g9
    generalize hL : lft Tryd.prog _ = L
    generalize hA : Arith.std = A
    cbv
    subst hA hg0 hg1 hg2 hg3 hg4 hg5 hg6 hg7 hg8 hg9 hL
    replace hk : k ≤ zs s.length := hk
    replace hl : l = s ++ ([128] ++ List.replicate k 0) := hl
    have hll : l.length = s.length + 1 + k := by rw [hl]; simp; omega
    have hmod : (l.length : Int).tmod 64 = ((l.length % 64 : Nat) : Int) := by rw [Int.tmod_eq_emod_of_nonneg (by omega)]; omega
    refine Need.mk (by show (64 : Int) ≠ 0; decide) fun _ => ?_
    refine Ife.mk (fun hne => ?_) (fun hne => ?_)
    · have hne : ¬ (l.length : Int).tmod 64 = 56 := by simpa [Arith.std] using hne
      rw [hmod] at hne
      refine Need.mk (by show (0 : Int) ≤ 0 ∧ (0 : Int) < 256; omega) fun _ => Need.mk (by show l.length + 1 ≤ 140737488355328; omega) fun _ => ?_
      refine ⟨⟨k + 1, l ++ [0], by omega, ?h2⟩, [0, 3], (by show zs s.length - (k + 1) < zs s.length - k; omega), ?st⟩
      case st => refine ⟨rfl, by decide, ?_, ?_⟩ <;> repeat' (first | exact trivial | exact rfl | apply And.intro)
      case h2 => rw [hl, List.replicate_succ']; simp
    replace hne : (l.length : Int).tmod 64 = 56 := by simpa [Arith.std] using hne
    rw [hmod] at hne
    obtain rfl : k = zs s.length := by omega
    clear hne hmod
    show Runs Tryd.prog 0 (.loop _) _ _
    refine loop_ruleR (N := env (lft Tryd.prog 0) 0 .std tbC [(75, appPure sConsts), (76, appFn [] [(5, 1)] sRMix)] [(14, [(0, true), (1, true), (2, true), (3, true), (4, true), (5, true), (6, true), (7, false), (1008, false), (8, false)])]) rfl tbC_ok hC (fun c st K _ h => h) (by kernel_rfl) [] (X := LE s)
      (S := fun x => ⟨[.c (.str s), .any, .c (.ptr 0 0), .c (.row 1), .c (.int .u64 x.n), .c (.int .i64 x.i)] ++ List.replicate 65 .any, [.cells 24 [.int .u8 0, .int .u8 0, .int .u8 0, .int .u8 0, .int .u8 0, .int .u8 0, .int .u8 0, .int .u8 0, .int .u8 0, .int .u8 0, .int .u8 0, .int .u8 0, .int .u8 0, .int .u8 0, .int .u8 0, .int .u8 0, .int .u8 0, .int .u8 0, .int .u8 0, .int .u8 0, .int .u8 0, .int .u8 0, .int .u8 0, .int .u8 0, .int .u8 0, .int .u8 0, .int .u8 0, .int .u8 0, .int .u8 0, .int .u8 0, .int .u8 0, .int .u8 0], .bytes 5 x.l]⟩) (μ := fun x => (x.i + 1).toNat) ⟨7, IntKind.wrap .u64 (IntKind.wrap .u64 (s.length : Int) * 8), l, by omega, by omega, rfl, by rw [hl]; simp⟩ (by kernel_rfl) [0, 1] ?_ ?_
    · refine ⟨rfl, by decide, ?_, ?_⟩ <;> repeat' (first | exact trivial | exact rfl | apply And.intro)
    rintro ⟨i, nb, l2, hi0, hi1, hnb, hl2⟩
    unfold sConsts sRMix
    generalize hg0 : rturnPre = g0
    generalize hg1 : rmixPre = g1
    generalize hg2 : mixS = g2
    generalize hg3 : kOf = g3
    generalize hg4 : k64 = g4
    generalize hg5 : bytesG = g5
    generalize hg6 : byteN = g6
    generalize hg7 : iv = g7
    generalize hg8 : sumI = g8
    generalize hg9 : (List.length : List UInt8 → Nat) = g9
    generalize hL : lft Tryd.prog _ = L
    generalize hA : Arith.std = A
    cbv
    subst hA hg0 hg1 hg2 hg3 hg4 hg5 hg6 hg7 hg8 hg9 hL
    replace hi0 : -1 ≤ i := hi0
    replace hnb : nb = IntKind.wrap .u64 (IntKind.wrap .u64 (s.length : Int) * 8) := hnb
    replace hi1 : i ≤ 7 := hi1
    replace hl2 : l2 = s ++ ([128] ++ List.replicate (zs s.length) 0) ++ (len8 s.length).take (7 - i).toNat := hl2
    have hll2 : l2.length ≤ s.length + 100 := by
      rw [hl2]
      simp only [List.length_append, List.length_take, List.length_replicate, len8_len, List.length_singleton]
      omega
    refine Ife.mk (fun hge => ?_) (fun hge => ?_)
    · replace hge : 0 ≤ i := of_decide_eq_true (p := (0 : Int) ≤ i) hge
      have hb : IntKind.wrap .u8 (nb.fdiv (2 ^ (min (8 * i).toNat 64))) = lenB s.length (7 - i).toNat := by
        rw [hnb]
        unfold lenB
        rw [show min (8 * i).toNat 64 = 8 * (7 - (7 - i).toNat) by omega]
      have hr : 0 ≤ lenB s.length (7 - i).toNat ∧ lenB s.length (7 - i).toNat < 256 := by
        unfold lenB
        generalize (IntKind.wrap .u64 (IntKind.wrap .u64 (s.length : Int) * 8)).fdiv (2 ^ (8 * (7 - (7 - i).toNat))) = x
        simp only [IntKind.wrap]
        exact ⟨Int.emod_nonneg _ (by decide), Int.emod_lt_of_pos _ (by decide)⟩
      refine Need.mk (by show fitStd .i64 (8 * i); unfold fitStd; omega) fun _ => Need.mk (by show (0 : Int) ≤ 8 * i; omega) fun _ => ?_
      refine Need.mk (by show 0 ≤ IntKind.wrap .u8 (nb.fdiv (2 ^ (min (8 * i).toNat 64))) ∧ IntKind.wrap .u8 (nb.fdiv (2 ^ (min (8 * i).toNat 64))) < 256; rw [hb]; exact hr) fun _ => ?_
      refine Need.mk (by show l2.length + 1 ≤ 140737488355328; omega) fun _ => Need.mk (by show fitStd .i64 (i - 1); unfold fitStd; omega) fun _ => ?_
      refine ⟨⟨i - 1, nb, l2 ++ [UInt8.ofNat (IntKind.wrap .u8 (nb.fdiv (2 ^ (min (8 * i).toNat 64)))).toNat], by omega, by omega, hnb, ?h2⟩, [0, 3], (by show (i - 1 + 1).toNat < (i + 1).toNat; omega), ?st⟩
      case st => refine ⟨rfl, by decide, ?_, ?_⟩ <;> repeat' (first | exact trivial | exact rfl | apply And.intro)
      case h2 =>
        rw [hb, hl2, show (7 - (i - 1)).toNat = (7 - i).toNat + 1 by omega, len8_snoc _ _ (by omega)]
        simp
    replace hge : ¬ 0 ≤ i := of_decide_eq_false (p := (0 : Int) ≤ i) hge
    obtain rfl : l2 = pad s := by
      rw [hl2, show (7 - i).toNat = 8 by omega, List.take_of_length_le (by rw [len8_len]; exact Nat.le_refl _)]
      unfold pad
      simp
    clear hl2 hll2 hl hll hge hi0 hi1 hnb
    obtain ⟨p, hpp⟩ : ∃ p, p = pad s := ⟨_, rfl⟩
    rw [← hpp] at hpl hpm ⊢
    refine Need.mk trivial fun _ => ?_
    show Runs Tryd.prog 0 (.loop _) _ _
    refine loop_ruleR (N := env (lft Tryd.prog 0) 0 .std tbC [(75, appPure sConsts), (76, appFn [] [(5, 1)] sRMix)] [(14, [(0, true), (1, true), (2, true), (3, true), (4, true), (5, true), (6, true), (7, false), (1008, false), (8, false)])]) rfl tbC_ok hC (fun c st K _ h => h) (by kernel_rfl) [] (X := LC p)
      (S := fun x => ⟨[.any, .any, .c (.ptr 0 0), .c (.row 1), .any, .any, .c (.ptr 2 0), .c (.ptr 3 0), .c (.int .i64 x.a)] ++ List.replicate 62 .any, [.cells 24 [.int .u8 0, .int .u8 0, .int .u8 0, .int .u8 0, .int .u8 0, .int .u8 0, .int .u8 0, .int .u8 0, .int .u8 0, .int .u8 0, .int .u8 0, .int .u8 0, .int .u8 0, .int .u8 0, .int .u8 0, .int .u8 0, .int .u8 0, .int .u8 0, .int .u8 0, .int .u8 0, .int .u8 0, .int .u8 0, .int .u8 0, .int .u8 0, .int .u8 0, .int .u8 0, .int .u8 0, .int .u8 0, .int .u8 0, .int .u8 0, .int .u8 0, .int .u8 0], .bytes 5 p, .cells 86 [.int .u32 x.s.a, .int .u32 x.s.b, .int .u32 x.s.c, .int .u32 x.s.d, .int .u32 x.s.e, .int .u32 x.s.f, .int .u32 x.s.g, .int .u32 x.s.h], .cells 90 [.int .u32 (kOf 0), .int .u32 (kOf 1), .int .u32 (kOf 2), .int .u32 (kOf 3), .int .u32 (kOf 4), .int .u32 (kOf 5), .int .u32 (kOf 6), .int .u32 (kOf 7), .int .u32 (kOf 8), .int .u32 (kOf 9), .int .u32 (kOf 10), .int .u32 (kOf 11), .int .u32 (kOf 12), .int .u32 (kOf 13), .int .u32 (kOf 14), .int .u32 (kOf 15), .int .u32 (kOf 16), .int .u32 (kOf 17), .int .u32 (kOf 18), .int .u32 (kOf 19), .int .u32 (kOf 20), .int .u32 (kOf 21), .int .u32 (kOf 22), .int .u32 (kOf 23), .int .u32 (kOf 24), .int .u32 (kOf 25), .int .u32 (kOf 26), .int .u32 (kOf 27), .int .u32 (kOf 28), .int .u32 (kOf 29), .int .u32 (kOf 30), .int .u32 (kOf 31), .int .u32 (kOf 32), .int .u32 (kOf 33), .int .u32 (kOf 34), .int .u32 (kOf 35), .int .u32 (kOf 36), .int .u32 (kOf 37), .int .u32 (kOf 38), .int .u32 (kOf 39), .int .u32 (kOf 40), .int .u32 (kOf 41), .int .u32 (kOf 42), .int .u32 (kOf 43), .int .u32 (kOf 44), .int .u32 (kOf 45), .int .u32 (kOf 46), .int .u32 (kOf 47), .int .u32 (kOf 48), .int .u32 (kOf 49), .int .u32 (kOf 50), .int .u32 (kOf 51), .int .u32 (kOf 52), .int .u32 (kOf 53), .int .u32 (kOf 54), .int .u32 (kOf 55), .int .u32 (kOf 56), .int .u32 (kOf 57), .int .u32 (kOf 58), .int .u32 (kOf 59), .int .u32 (kOf 60), .int .u32 (kOf 61), .int .u32 (kOf 62), .int .u32 (kOf 63)]]⟩) (μ := fun x => p.length / 64 - x.k) ⟨0, 0, iv, by omega, rfl, rfl⟩ (by kernel_rfl) [0, 1, 2, 3] ?_ ?_
    · refine ⟨rfl, by decide, ?_, ?_⟩ <;> repeat' (first | exact trivial | exact rfl | apply And.intro)
    rintro ⟨k, a, S, hk, ha, hS⟩
    unfold sConsts sRMix
    generalize hg0 : rturnPre = g0
    generalize hg1 : rmixPre = g1
    generalize hg2 : mixS = g2
    generalize hg3 : kOf = g3
    generalize hg4 : k64 = g4
    generalize hg5 : bytesG = g5
    generalize hg6 : byteN = g6
    generalize hg7 : iv = g7
    generalize hg8 : sumI = g8
    generalize hg9 : (List.length : List UInt8 → Nat) = g9
    generalize hL : lft Tryd.prog _ = L
    generalize hA : Arith.std = A
    cbv
    subst hA hg0 hg1 hg2 hg3 hg4 hg5 hg6 hg7 hg8 hg9 hL
    replace hk : k ≤ p.length / 64 := hk
    replace ha : a = 64 * (k : Int) := ha
    replace hS : S = blocks k iv p := hS
    refine Ife.mk (fun hlt => ?_) (fun hlt => ?_)
    · replace hlt : a < (p.length : Int) := of_decide_eq_true (p := a < (p.length : Int)) hlt
      refine Need.mk (by show fitStd .i64 (a + 64); unfold fitStd; omega) fun _ => ?_
      refine Need.mk (by show 0 ≤ a ∧ a ≤ a + 64 ∧ a + 64 ≤ (byteL p : Int); rw [byteL_eq]; omega) fun _ => ?_
      refine Need.mk ⟨rfl, rfl, by show (a + 64 - a).toNat = 64; omega, bytesG_ok p a.toNat _, rfl⟩ fun _ => ?_
      refine Need.mk (by show fitStd .i64 (a + 64); unfold fitStd; omega) fun _ => ?_
      refine ⟨⟨k + 1, a + 64, mixS S (bytesG (a + 64 - a).toNat (fun i => [.int .u8 (byteN p (a.toNat + i))])), by omega, by omega, ?h3⟩, [0, 1, 2, 3], (by show p.length / 64 - (k + 1) < p.length / 64 - k; omega), ?st⟩
      case st => refine ⟨rfl, by decide, ?_, ?_⟩ <;> repeat' (first | exact trivial | exact rfl | apply And.intro)
      case h3 =>
        rw [show (a + 64 - a).toNat = 64 by omega, bytesG_cut p a.toNat 64 (by omega), blocks_add k 1 iv p, ← hS, show a.toNat = 64 * k by omega]
        rfl
    replace hlt : ¬ a < (p.length : Int) := of_decide_eq_false (p := a < (p.length : Int)) hlt
    have hSE : S = endS s := by
      rw [hS, show k = p.length / 64 by omega, hpp]
      rfl
    clear hS hk ha hlt
    generalize hE : endS s = E at hSE
    subst hSE
    show Runs Tryd.prog 0 (.loop _) _ _
    refine loop_ruleR (N := env (lft Tryd.prog 0) 0 .std tbY [(75, appPure sConsts), (76, appFn [] [(5, 1)] sRMix)] [(14, [(0, true), (1, true), (2, true), (3, true), (4, true), (5, true), (6, true), (7, false), (1008, false), (8, false)])]) rfl tbY_ok hC (fun c st K _ h => h) (by kernel_rfl) [] (X := LFill 32 (outS S) (fun _ => 0))
      (S := fun x => ⟨[.any, .any, .c (.ptr 0 0), .any, .any, .any, .c (.ptr 2 0), .any, .any, .c (.ptr 4 0), .c (.int .i64 x.i)] ++ List.replicate 60 .any, [.cells 24 [.int .u8 0, .int .u8 0, .int .u8 0, .int .u8 0, .int .u8 0, .int .u8 0, .int .u8 0, .int .u8 0, .int .u8 0, .int .u8 0, .int .u8 0, .int .u8 0, .int .u8 0, .int .u8 0, .int .u8 0, .int .u8 0, .int .u8 0, .int .u8 0, .int .u8 0, .int .u8 0, .int .u8 0, .int .u8 0, .int .u8 0, .int .u8 0, .int .u8 0, .int .u8 0, .int .u8 0, .int .u8 0, .int .u8 0, .int .u8 0, .int .u8 0, .int .u8 0], .dead, .cells 86 [.int .u32 S.a, .int .u32 S.b, .int .u32 S.c, .int .u32 S.d, .int .u32 S.e, .int .u32 S.f, .int .u32 S.g, .int .u32 S.h], .dead, .cells 24 [.int .u8 (x.g 0), .int .u8 (x.g 1), .int .u8 (x.g 2), .int .u8 (x.g 3), .int .u8 (x.g 4), .int .u8 (x.g 5), .int .u8 (x.g 6), .int .u8 (x.g 7), .int .u8 (x.g 8), .int .u8 (x.g 9), .int .u8 (x.g 10), .int .u8 (x.g 11), .int .u8 (x.g 12), .int .u8 (x.g 13), .int .u8 (x.g 14), .int .u8 (x.g 15), .int .u8 (x.g 16), .int .u8 (x.g 17), .int .u8 (x.g 18), .int .u8 (x.g 19), .int .u8 (x.g 20), .int .u8 (x.g 21), .int .u8 (x.g 22), .int .u8 (x.g 23), .int .u8 (x.g 24), .int .u8 (x.g 25), .int .u8 (x.g 26), .int .u8 (x.g 27), .int .u8 (x.g 28), .int .u8 (x.g 29), .int .u8 (x.g 30), .int .u8 (x.g 31)]]⟩) (μ := fun x => 32 - x.i.toNat) ⟨0, (fun _ => 0), by omega, by omega, fun j hj => absurd hj (by omega), fun j _ _ => rfl⟩ (by kernel_rfl) [0, 1, 2, 3, 4] ?_ ?_
    · refine ⟨rfl, by decide, ?_, ?_⟩ <;> repeat' (first | exact trivial | exact rfl | apply And.intro)
    rintro ⟨i2, g2, hi02, hin2, hlo2, hhi2⟩
    unfold sConsts sRMix
    generalize hg0 : rturnPre = g0
    generalize hg1 : rmixPre = g1
    generalize hg2 : mixS = g2
    generalize hg3 : kOf = g3
    generalize hg4 : k64 = g4
    generalize hg5 : bytesG = g5
    generalize hg6 : byteN = g6
    generalize hg7 : iv = g7
    generalize hg8 : sumI = g8
    generalize hg9 : (List.length : List UInt8 → Nat) = g9
    generalize hL : lft Tryd.prog _ = L
    generalize hA : Arith.std = A
    cbv
    subst hA hg0 hg1 hg2 hg3 hg4 hg5 hg6 hg7 hg8 hg9 hL
    replace hi02 : 0 ≤ i2 := hi02
    replace hin2 : i2 ≤ ((32 : Nat) : Int) := hin2
    replace hlo2 : ∀ j : Nat, (j : Int) < i2 → g2 j = (outS S) j := hlo2
    replace hhi2 : ∀ j : Nat, i2 ≤ (j : Int) → j < 32 → g2 j = (fun _ => 0) j := hhi2
    refine Ife.mk (fun hlt2 => ?_) (fun hlt2 => ?_)
    · replace hlt2 : i2 < (32 : Int) := of_decide_eq_true (p := i2 < (32 : Int)) hlt2
      obtain ⟨q1, q2, q3, q4⟩ := quo4 i2 hi02 hlt2
      repeat refine Need.mk (by first | exact trivial | (simp only [Arith.std, fitStd]; omega) | (simp [Arith.std, fitStd]; omega)) fun _ => ?_
      refine ⟨⟨i2 + 1, fun j => Arith.std.upd (i2.toNat) (j) ?fv2 (g2 j), by omega, by omega, ?h2, ?h3⟩, [0, 1, 2, 3, 4], (by show 32 - (i2 + 1).toNat < 32 - i2.toNat; omega), ?st⟩
      case st => refine ⟨rfl, by decide, ?_, ?_⟩ <;> repeat' (first | exact trivial | exact rfl | apply And.intro)
      case h3 =>
        intro j hj hj2
        show (if i2.toNat = j then _ else g2 j) = _
        rw [if_neg (by omega)]
        exact hhi2 j (by omega) hj2
      case h2 =>
        intro j hj
        show (if i2.toNat = j then _ else g2 j) = _
        by_cases hji : i2.toNat = j
        · rw [if_pos hji]
          obtain rfl : j = i2.toNat := by omega
          clear hji hj
          show IntKind.wrap .u8 ((Arith.std.sel (IntKind.wrap .i64 (i2.tdiv 4)).toNat [S.a, S.b, S.c, S.d, S.e, S.f, S.g, S.h]).fdiv (2 ^ (min (24 - 8 * i2.tmod 4).toNat 32))) = outS S i2.toNat
          rw [sel8S, show 8 * i2.tmod 4 = i2.tmod 4 * 8 by omega]
          exact out_int S i2 hi02 hlt2
        · rw [if_neg hji]
          exact hlo2 j (by omega)
    · replace hlt2 : ¬ i2 < (32 : Int) := of_decide_eq_false (p := i2 < (32 : Int)) hlt2
      have hq2 : ∀ k : Nat, k < 32 → g2 k = (outS S) k := fun k hk => hlo2 k (by omega)
      have hq3 : ∀ k, k < 32 → g2 k = sumI s k := fun k hk => by rw [hq2 k hk]; unfold sumI; rw [hE]
      rw [hq3 0 (by decide), hq3 1 (by decide), hq3 2 (by decide), hq3 3 (by decide), hq3 4 (by decide), hq3 5 (by decide), hq3 6 (by decide), hq3 7 (by decide), hq3 8 (by decide), hq3 9 (by decide), hq3 10 (by decide), hq3 11 (by decide), hq3 12 (by decide), hq3 13 (by decide), hq3 14 (by decide), hq3 15 (by decide), hq3 16 (by decide), hq3 17 (by decide), hq3 18 (by decide), hq3 19 (by decide), hq3 20 (by decide), hq3 21 (by decide), hq3 22 (by decide), hq3 23 (by decide), hq3 24 (by decide), hq3 25 (by decide), hq3 26 (by decide), hq3 27 (by decide), hq3 28 (by decide), hq3 29 (by decide), hq3 30 (by decide), hq3 31 (by decide)]
      repeat' (first | exact trivial | exact rfl | apply And.intro)

end Go.Proofs.YtophhppklaofaaaDoor.Vx
end
