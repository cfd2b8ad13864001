/- Texts joined, a text repeated: the library's functions, as contracts. -/
import Derived.Test.YtophhppklaofaaaDoorVSha4
import Derived.Test.YtophhppklaofaaaDoorShelf
namespace Go.Proofs.YtophhppklaofaaaDoor.Vx
open Go.RowKit Sha
set_option linter.unusedVariables false
set_option linter.unusedSimpArgs false
/-- The text that is a cell. -/
def strOf : List CV → List UInt8
  | [.str l] => l
  | _ => []
/-- Texts, one behind the other. -/
def joinG (n : Nat) (get : Nat → List CV) : List UInt8 := (List.range n).flatMap fun i => strOf (get i)
def StrsAt (n : Nat) (get : Nat → List CV) : Prop := ∀ i, i < n → ∃ l, get i = [.str l]
theorem ksAt_self : KsAt 0 1 64 (fun i => [.int .u32 (kOf i)]) := ⟨rfl, rfl, rfl, fun _ _ => rfl⟩
theorem joinG_zero (get : Nat → List CV) : joinG 0 get = [] := rfl
theorem joinG_succ (n : Nat) (get : Nat → List CV) : joinG (n + 1) get = joinG n get ++ strOf (get n) := by
  unfold joinG
  rw [List.range_succ, List.flatMap_append]
  simp
def joinPre (ty one : Nat) (sep : List UInt8) (n : Nat) (get : Nat → List CV) : Prop := ty = 9 ∧ one = 1 ∧ sep = [] ∧ StrsAt n get ∧ n ≤ 140737488355328 ∧ (joinG n get).length ≤ 140737488355328
def repPre (l : List UInt8) (c : Int) : Prop := l = [0] ∧ 0 ≤ c ∧ c ≤ 1000
def sJoin : SpecF
  | [.c (.row 0), .c (.str sep)], [.elems ty one n get] => some (joinPre ty one sep n get, .c (.str (joinG n get)), [.dead])
  | _, _ => none

theorem joinP : Fn Tryd.prog 70 [] [(9, 1)] sJoin := by
  refine ⟨by kernel_rfl, fun args h pre res h' hs => ?_, fun args h pre res h' hs hp ρ W us rel hus => ?_⟩
  · unfold sJoin at hs
    split at hs
    · cases hs; exact ⟨rfl, Nat.le_refl _⟩
    · cases hs
  · unfold sJoin at hs
    split at hs
    rotate_left
    · cases hs
    rename_i sep ty one n get
    cases hs
    obtain ⟨rfl, rfl, rfl, hst, hn, hlen⟩ := hp
    obtain ⟨u0, us1, rfl, hu0, u1, us2, rfl, hu1, rfl⟩ := hus
    obtain ⟨p, hpk, rfl⟩ := den_row hu0
    obtain ⟨⟨a, cap, hpv, hcap, ha⟩, hget⟩ := rel.ok 0 _ p rfl hpk
    obtain rfl : .string ⟨#[]⟩ = u1 := Option.some.inj hu1
    rw [hpv]
    obtain ⟨xs, hxs⟩ : ∃ xs : List ByteArray, xs = (List.range n).map fun i => ⟨(strOf (get i)).toArray⟩ := ⟨_, rfl⟩
    have hxl : xs.length = n := by rw [hxs]; simp
    have hj : Lib.join (xs.map (·.data.toList)) [] = joinG n get := by
      have e1 : xs.map (·.data.toList) = (List.range n).map fun i => strOf (get i) := by
        rw [hxs, List.map_map]
        refine List.map_congr_left fun i _ => ?_
        simp
      have e2 : ∀ l : List (List UInt8), Lib.join l [] = l.flatten := fun l => by
        cases l with
        | nil => rfl
        | cons x r =>
          rw [Lib.join_cons]
          unfold Lib.joinTail
          simp
      rw [e1, e2, joinG, List.flatMap]
    have hres : ∀ (e : Ending) (w' : World), (e = .returned (.string ⟨(Lib.join (xs.map (·.data.toList)) []).toArray⟩) ∧ Below W.heap.size W w') → ∃ u ρ', e = .returned u ∧ SV.is (ρ ++ ρ') (.c (.str (joinG n get))) u ∧ Rel W (Fps ρ [.elems 9 1 n get]) (ρ ++ ρ') [.dead] w' := fun e w' he => by
      obtain ⟨rfl, hb⟩ := he
      rw [hj]
      refine ⟨_, [], rfl, rfl, ?_⟩
      rw [List.append_nil]
      refine (rel.belowStep hb).forget (fun k e he => ?_) rfl
      cases k with
      | zero => simp at he; exact Or.inl he.symm
      | succ k => simp at he
    rcases Nat.eq_zero_or_pos n with h0 | h0
    · subst h0
      refine Calls.mono (Tryd.strings_Join_none a cap ⟨#[]⟩ W) fun e w' he => hres e w' ?_
      obtain ⟨he, rfl⟩ := he
      obtain rfl : xs = [] := List.eq_nil_of_length_eq_zero hxl
      exact ⟨he, Below.refl _ _⟩
    · rw [ha h0]
      have hdep := rel.dep_lt (k := 0) rfl hpk (b := p.b) (by simp [Ent.dep, h0])
      have := Tryd.strings_Join p.b p.o cap xs ⟨#[]⟩ W (fun j x hx => ?_) hdep (by rw [hxl]; exact hn) (by rw [hxl]; exact hcap) (by show (Lib.join _ []).length ≤ _; rw [hj]; exact hlen)
      · rw [hxl] at this
        exact Calls.mono this fun e w' he => hres e w' he
      · have hjn : j < n := by rw [← hxl]; exact (List.getElem?_eq_some_iff.1 hx).1
        obtain ⟨l, hl⟩ := hst j hjn
        obtain ⟨vs, hv, hc⟩ := hget j hjn
        rw [hl] at hv
        have hv2 : [Value.string ⟨l.toArray⟩] = vs := (show IsL [] [CV.str l] [.string ⟨l.toArray⟩] from rfl).unique hv
        have h1 := hc 0 (.string ⟨l.toArray⟩) (by rw [← hv2]; rfl)
        rw [Nat.mul_one, Nat.add_zero] at h1
        rw [h1]
        have h2 : x = ⟨(strOf (get j)).toArray⟩ := by
          rw [hxs, List.getElem?_map, List.getElem?_range hjn] at hx
          exact (Option.some.inj hx).symm
        rw [h2, hl]
        rfl
def sRepeat : List SV → Option (Prop × SV)
  | [.c (.str l), .c (.int .i64 c)] => some (repPre l c, .c (.str (List.replicate c.toNat 0)))
  | _ => none

theorem repeatL_one (n : Nat) : Lib.repeatL [0] n = List.replicate n 0 := by
  induction n with
  | zero => rfl
  | succ n ih => rw [Lib.repeatL, ih]; rfl
theorem repeatP : Pure Tryd.prog 71 sRepeat := by
  refine ⟨by kernel_rfl, fun args pre r h hp us hs W => ?_⟩
  unfold sRepeat at h
  split at h
  rotate_left
  · cases h
  rename_i l c
  cases h
  obtain ⟨rfl, h0, h1⟩ := hp
  obtain ⟨u0, us1, rfl, hu0, u1, us2, rfl, hu1, rfl⟩ := hs
  obtain rfl : .string ⟨#[0]⟩ = u0 := Option.some.inj hu0
  obtain rfl : .int .i64 c = u1 := Option.some.inj hu1
  have := Tryd.strings_Repeat ⟨#[0]⟩ c.toNat W (by omega) (by show 1 * c.toNat ≤ _; omega)
  rw [show ((c.toNat : Nat) : Int) = c by omega] at this
  refine Calls.mono this fun e W' he => ?_
  obtain ⟨rfl, hb⟩ := he
  refine ⟨_, rfl, ?_, hb⟩
  show some (Value.string _) = _
  rw [← repeatL_one]
end Go.Proofs.YtophhppklaofaaaDoor.Vx
