/- Has: whether a number is in one of the ranges: slices.ContainsFunc with a function that holds a number. -/
import Derived.Test.YtonkpggnlkkghaaVSpan3
import Derived.Shelf.SlicesQ.IndexFunc
import Derived.WalkKit
namespace Go.Proofs.Ytonkpggnlkkghaa
open Go.Shelf Go.RowKit Go.Lib Span
set_option linter.unusedVariables false
set_option linter.unusedSimpArgs false
def cfRen : Go.Shelf.Ren := ⟨fun | 6 => 53 | 8 => 37 | n => n, fun | 0 => 0 | 3 => 3 | 4 => 4 | 22 => 24 | 23 => 62 | 25 => 66 | n => n, fun | n => n⟩
theorem cfLays : Go.Proofs.SlLaysH0.n8 Try.prog cfRen := {
  mixed := by kernel_rfl
  f6 := ⟨Try.f53.name, by decide, Try.func53.trans (congrArg some (by kernel_rfl))⟩
  f8 := ⟨Try.f37.name, by decide, Try.func37.trans (congrArg some (by kernel_rfl))⟩
  t0 := Try.underlying0
  a0 := Try.isAgg0
  z0 := Try.sizeOf0
  v0 := Try.zeroValue0
  t3 := Try.underlying3
  a3 := Try.isAgg3
  z3 := Try.sizeOf3
  v3 := Try.zeroValue3
  t4 := Try.underlying4
  a4 := Try.isAgg4
  z4 := Try.sizeOf4
  v4 := Try.zeroValue4
  t22 := Try.underlying24
  a22 := Try.isAgg24
  z22 := Try.sizeOf24
  v22 := Try.zeroValue24
  t25 := Try.underlying66
  a25 := Try.isAgg66
  z25 := Try.sizeOf66
  v25 := Try.zeroValue66 }
def encRg (x : Int × Int) : List Value := [.int .i64 x.1, .int .i64 x.2]
def inRg (n : Int) (x : Int × Int) : Bool := decide (x.1 ≤ n) && decide (n ≤ x.2)
theorem hasPred (n : Int) (B : Nat) (w : World) (hB : B < w.heap.size) (hcell : w.cell? ⟨B, 0, none⟩ = some (.int .i64 n)) :
    PredBelow Try.prog 38 #[.pointer (some ⟨B, 0, none⟩)] (fun x => .agg (encRg x).toArray) (inRg n) w := fun W x hb => by
  have hc : W.cell? ⟨B, 0, none⟩ = some (.int .i64 n) := (hb.cell (p := ⟨B, 0, none⟩) hB).trans hcell
  have hBW : B < W.heap.size := Nat.lt_of_lt_of_le hB hb.size
  have hne : B ≠ W.heap.size := by omega
  have e : inRg n x = (decide (x.1 ≤ n) && decide (n ≤ x.2)) := rfl
  generalize inRg n x = r at e ⊢
  show Calls Try.prog 38 #[.agg #[.int .i64 x.1, .int .i64 x.2], .pointer (some ⟨B, 0, none⟩)] W _
  go_enter Try.func38, Try.ntmps38
  go_wp2
  all_goals (go_ret; exact ⟨by first | (simp_all; done) | (simp_all; omega), hb.alloc hb.size _⟩)
set_option maxHeartbeats 1000000 in
theorem ixEmpty (a : Option Addr) (c : Nat) (fv : Value) (w : World) :
    Calls Try.prog 53 #[.slice a 0 c, fv] w fun e w' => e = .returned (.int .i64 (-1)) ∧ w' = w := by
  go_enter Try.func53, Try.ntmps53
  go_wp2
  go_loopg [5, 8] 0 (fun _ _ s8 wr => s8 = .int .i64 0 ∧ wr = w)
  case atStart => exact ⟨rfl, rfl⟩
  case round =>
    obtain ⟨rfl, rfl⟩ := hrel
    go_wp2
    go_ret
    exact ⟨rfl, rfl⟩
set_option maxHeartbeats 1000000 in
theorem cfEmpty (a : Option Addr) (c : Nat) (fv : Value) (w : World) :
    Calls Try.prog 37 #[.slice a 0 c, fv] w fun e w' => e = .returned (.bool false) ∧ w' = w := by
  go_enter Try.func37, Try.ntmps37
  go_wp2_with (go_at_call 53; refine (ixEmpty a c fv _).mono ?_; rintro e w' ⟨rfl, rfl⟩)
  go_ret
  exact ⟨rfl, rfl⟩
set_option maxHeartbeats 1000000 in
theorem hasEmpty (a : Option Addr) (c : Nat) (n : Int) (w : World) :
    Calls Try.prog 14 #[.slice a 0 c, .int .i64 n] w fun e w' => e = .returned (.bool false) ∧ Below w.heap.size w w' := by
  go_enter Try.func14, Try.ntmps14
  go_wp2_with (go_at_call 37; refine (cfEmpty _ _ _ _).mono ?_; rintro e w' ⟨rfl, rfl⟩)
  go_ret
  exact ⟨rfl, (Below.refl _ w).alloc (Nat.le_refl _) _⟩
set_option maxHeartbeats 1000000 in
theorem hasWalk (b off m c : Nat) (zs : List (Int × Int)) (n : Int) (w : World) (hz : m ≤ zs.length) (hbig : m ≤ 9223372036854775807) (hb : b < w.heap.size)
    (hc : ∀ j, j < zs.length → w.cell? ⟨b, off + j * 2, none⟩ = some (.int .i64 zs[j]!.1) ∧ w.cell? ⟨b, off + j * 2 + 1, none⟩ = some (.int .i64 zs[j]!.2)) :
    Calls Try.prog 14 #[.slice (some ⟨b, off, none⟩) m c, .int .i64 n] w fun e w' => e = .returned (.bool ((zs.take m).any (inRg n))) ∧ Below w.heap.size w w' := by
  have eg : ∀ args w, (callFunc 38 args).run Try.prog w = .ok (.enter 38 args) w := enters_of Try.func38 (by kernel_rfl) rfl
  have hcon := AnyQ.slices_ContainsFunc cfLays 2 Try.isAgg62 Try.sizeOf62 encRg (fun _ => rfl) (inRg n) 38 #[.pointer (some ⟨w.heap.size, 0, none⟩)] eg b off m c zs (w.alloc (.cells #[.int .i64 n] 3))
    (hasPred n w.heap.size _ (by simp) (by simp)) hz hbig (by simp; omega) (fun j hj i v hi => by
      refine Lib.cell?_alloc_some _ ?_
      have h1 := hc j hj
      generalize zs[j]! = y at hi h1
      match i, hi with
      | 0, hi => simp [encRg] at hi; rw [← hi]; exact h1.1
      | 1, hi => simp [encRg] at hi; rw [← hi]; exact h1.2
      | i + 2, hi => simp [encRg] at hi)
  change Calls Try.prog 37 _ _ _ at hcon
  clear hc
  generalize (zs.take m).any (inRg n) = r at hcon ⊢
  go_enter Try.func14, Try.ntmps14
  go_wp2_with (go_at_call 37; refine hcon.mono ?_; rintro e w' ⟨rfl, hb'⟩)
  go_ret
  exact ⟨rfl, ((Below.refl _ w).alloc (Nat.le_refl _) _).trans (hb'.mono (by simp))⟩
namespace Vx
def hasL (l : List Rg) (n : Int) : Bool := l.any (inRg n)
def sHas : SpecF
  | [.c (.row 0), .c (.int .i64 x)], [.elems ty one n get] => some (rgPre ty one n get, .c (.bool (hasL (rgL n get) x)), [.dead])
  | _, _ => none
theorem hasP : Fn Try.prog 14 [] [(62, 2)] sHas := by
  refine ⟨by kernel_rfl, fun args h pre res h' hs => ?_, fun args h pre res h' hs hp ρ W us rel hus => ?_⟩
  · unfold sHas at hs
    split at hs
    · cases hs; exact ⟨rfl, Nat.le_refl _⟩
    · cases hs
  · unfold sHas at hs
    split at hs
    rotate_left
    · cases hs
    rename_i x ty one n get
    cases hs
    obtain ⟨rfl, rfl, hst, hn⟩ := hp
    obtain ⟨v, us', rfl, hv, u2, us2, rfl, hu2, hus'⟩ := hus
    cases hus'
    obtain rfl : .int .i64 x = u2 := Option.some.inj hu2
    obtain ⟨p, hpl, hok⟩ := rel.place (k := 0) rfl
    obtain ⟨q, hq, hvq⟩ := den_row hv
    rw [hpl] at hq
    obtain rfl := Option.some.inj hq
    subst hvq
    obtain ⟨⟨a, cap, hpv, hcap, ha⟩, hcells⟩ := hok
    have hzl : (rgL n get).length = n := rgL_len
    have fin : ∀ (b : Bool) (W' : World), b = hasL (rgL n get) x → Below W.heap.size W W' → ∃ ρ', (SV.c (.bool (hasL (rgL n get) x))).is (ρ ++ ρ') (.bool b) ∧ Rel W (Fps ρ [.elems 62 2 n get]) (ρ ++ ρ') [.dead] W' := fun b W' hb hbel => by
      refine ⟨[], by rw [hb]; rfl, ?_⟩
      rw [List.append_nil]
      refine (rel.belowStep hbel).forget (fun j e he => ?_) rfl
      cases j with
      | zero => left; exact (Option.some.inj he).symm
      | succ j => simp at he
    rw [hpv]
    rcases Nat.eq_zero_or_pos n with h0 | h0
    · subst h0
      refine Calls.mono (hasEmpty a cap x W) fun e W' he => ?_
      obtain ⟨rfl, hb⟩ := he
      obtain ⟨ρ', f1, f2⟩ := fin false W' (by
        have : rgL 0 get = [] := rfl
        rw [this]; rfl) hb
      exact ⟨_, ρ', rfl, f1, f2⟩
    · obtain rfl := ha h0
      have hlt : p.b < W.heap.size := (rel.ro 0 _ p p.b rfl hpl rfl (by simp [Ent.dep, h0])).1
      have hcc : ∀ j, j < (rgL n get).length → W.cell? ⟨p.b, p.o + j * 2, none⟩ = some (.int .i64 (rgL n get)[j]!.1) ∧ W.cell? ⟨p.b, p.o + j * 2 + 1, none⟩ = some (.int .i64 (rgL n get)[j]!.2) := fun j hj => by
        obtain ⟨vs, h1, h2⟩ := hcells j (by omega)
        rw [hst.eq (show j < n by omega)] at h1
        obtain rfl : [Value.int .i64 (rA (rgL n get) j), Value.int .i64 (rB (rgL n get) j)] = vs := (show IsL [] (rgG (rgL n get) j) [.int .i64 (rA (rgL n get) j), .int .i64 (rB (rgL n get) j)] from rfl).unique h1
        have e : (rgL n get)[j]! = (rA (rgL n get) j, rB (rgL n get) j) := by
          unfold rA rB
          rw [List.getElem!_eq_getElem?_getD, List.getD_eq_getElem?_getD]
          rfl
        rw [e]
        exact ⟨by simpa using h2 0 _ rfl, by simpa using h2 1 _ rfl⟩
      refine Calls.mono (hasWalk p.b p.o n cap (rgL n get) x W (by omega) (by omega) hlt hcc) fun e W' he => ?_
      obtain ⟨rfl, hb⟩ := he
      rw [List.take_of_length_le (by omega)]
      obtain ⟨ρ', f1, f2⟩ := fin _ W' rfl hb
      exact ⟨_, ρ', rfl, f1, f2⟩
end Vx
end Go.Proofs.Ytonkpggnlkkghaa
