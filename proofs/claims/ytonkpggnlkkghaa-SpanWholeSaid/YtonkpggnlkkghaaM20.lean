/- Has: whether a number is in one of the ranges: slices.ContainsFunc with a function that holds a number. -/
import Derived.Test.YtonkpggnlkkghaaVSpan3
import Derived.Shelf.SlicesQ.IndexFunc
import Derived.WalkKit
section
namespace Go.Proofs.Ytonkpggnlkkghaa
open Go.Shelf Go.RowKit Go.Lib Span
set_option linter.unusedVariables false
set_option linter.unusedSimpArgs false
def cfRen : Go.Shelf.Ren := ⟨fun | 6 => 53 | 8 => 37 | n => n, fun | 0 => 0 | 3 => 3 | 4 => 4 | 22 => 24 | 23 => 62 | 25 => 66 | n => n, fun | n => n⟩
theorem cfLays : Go.Proofs.SlLaysH0.n8 Try.prog cfRen := {
  mixed := by kernel_rfl
  f6 := ⟨Try.f53.name, by decide, Try.func53.trans (congrArg some (by kernel_rfl))⟩
  f8 := ⟨Try.f37.name, by decide, Try.func37.trans (congrArg some (by kernel_rfl))⟩
  t0 := Try.underlying0
  a0 := Try.isAgg0
  z0 := Try.sizeOf0
  v0 := Try.zeroValue0
  t3 := Try.underlying3
  a3 := Try.isAgg3
  z3 := Try.sizeOf3
  v3 := Try.zeroValue3
  t4 := Try.underlying4
  a4 := Try.isAgg4
  z4 := Try.sizeOf4
  v4 := Try.zeroValue4
  t22 := Try.underlying24
  a22 := Try.isAgg24
  z22 := Try.sizeOf24
  v22 := Try.zeroValue24
  t25 := Try.underlying66
  a25 := Try.isAgg66
  z25 := Try.sizeOf66
  v25 := Try.zeroValue66 }
def encRg (x : Int × Int) : List Value := [.int .i64 x.1, .int .i64 x.2]
def inRg (n : Int) (x : Int × Int) : Bool := decide (x.1 ≤ n) && decide (n ≤ x.2)
theorem hasPred (n : Int) (B : Nat) (w : World) (hB : B < w.heap.size) (hcell : w.cell? ⟨B, 0, none⟩ = some (.int .i64 n)) :
    PredBelow Try.prog 38 #[.pointer (some ⟨B, 0, none⟩)] (fun x => .agg (encRg x).toArray) (inRg n) w := fun W x hb => by
  have hc : W.cell? ⟨B, 0, none⟩ = some (.int .i64 n) := (hb.cell (p := ⟨B, 0, none⟩) hB).trans hcell
  have hBW : B < W.heap.size := Nat.lt_of_lt_of_le hB hb.size
  have hne : B ≠ W.heap.size := by omega
  have e : inRg n x = (decide (x.1 ≤ n) && decide (n ≤ x.2)) := rfl
  generalize inRg n x = r at e ⊢
  show Calls Try.prog 38 #[.agg #[.int .i64 x.1, .int .i64 x.2], .pointer (some ⟨B, 0, none⟩)] W _
  go_enter Try.func38, Try.ntmps38
  go_wp2
  all_goals (go_ret; exact ⟨by first | (simp_all; done) | (simp_all; omega), hb.alloc hb.size _⟩)
set_option maxHeartbeats 1000000 in
theorem ixEmpty (a : Option Addr) (c : Nat) (fv : Value) (w : World) :
    Calls Try.prog 53 #[.slice a 0 c, fv] w fun e w' => e = .returned (.int .i64 (-1)) ∧ w' = w := by
  go_enter Try.func53, Try.ntmps53
  go_wp2
  go_loopg [5, 8] 0 (fun _ _ s8 wr => s8 = .int .i64 0 ∧ wr = w)
  case atStart => exact ⟨rfl, rfl⟩
  case round =>
    obtain ⟨rfl, rfl⟩ := hrel
    go_wp2
    go_ret
    exact ⟨rfl, rfl⟩
set_option maxHeartbeats 1000000 in
theorem cfEmpty (a : Option Addr) (c : Nat) (fv : Value) (w : World) :
    Calls Try.prog 37 #[.slice a 0 c, fv] w fun e w' => e = .returned (.bool false) ∧ w' = w := by
  go_enter Try.func37, Try.ntmps37
  go_wp2_with (go_at_call 53; refine (ixEmpty a c fv _).mono ?_; rintro e w' ⟨rfl, rfl⟩)
  go_ret
  exact ⟨rfl, rfl⟩
set_option maxHeartbeats 1000000 in
theorem hasEmpty (a : Option Addr) (c : Nat) (n : Int) (w : World) :
    Calls Try.prog 14 #[.slice a 0 c, .int .i64 n] w fun e w' => e = .returned (.bool false) ∧ Below w.heap.size w w' := by
  go_enter Try.func14, Try.ntmps14
  go_wp2_with (go_at_call 37; refine (cfEmpty _ _ _ _).mono ?_; rintro e w' ⟨rfl, rfl⟩)
  go_ret
  exact ⟨rfl, (Below.refl _ w).alloc (Nat.le_refl _) _⟩
set_option maxHeartbeats 1000000 in
theorem hasWalk (b off m c : Nat) (zs : List (Int × Int)) (n : Int) (w : World) (hz : m ≤ zs.length) (hbig : m ≤ 9223372036854775807) (hb : b < w.heap.size)
    (hc : ∀ j, j < zs.length → w.cell? ⟨b, off + j * 2, none⟩ = some (.int .i64 zs[j]!.1) ∧ w.cell? ⟨b, off + j * 2 + 1, none⟩ = some (.int .i64 zs[j]!.2)) :
    Calls Try.prog 14 #[.slice (some ⟨b, off, none⟩) m c, .int .i64 n] w fun e w' => e = .returned (.bool ((zs.take m).any (inRg n))) ∧ Below w.heap.size w w' := by
  have eg : ∀ args w, (callFunc 38 args).run Try.prog w = .ok (.enter 38 args) w := enters_of Try.func38 (by kernel_rfl) rfl
  have hcon := AnyQ.slices_ContainsFunc cfLays 2 Try.isAgg62 Try.sizeOf62 encRg (fun _ => rfl) (inRg n) 38 #[.pointer (some ⟨w.heap.size, 0, none⟩)] eg b off m c zs (w.alloc (.cells #[.int .i64 n] 3))
    (hasPred n w.heap.size _ (by simp) (by simp)) hz hbig (by simp; omega) (fun j hj i v hi => by
      refine Lib.cell?_alloc_some _ ?_
      have h1 := hc j hj
      generalize zs[j]! = y at hi h1
      match i, hi with
      | 0, hi => simp [encRg] at hi; rw [← hi]; exact h1.1
      | 1, hi => simp [encRg] at hi; rw [← hi]; exact h1.2
      | i + 2, hi => simp [encRg] at hi)
  change Calls Try.prog 37 _ _ _ at hcon
  clear hc
  generalize (zs.take m).any (inRg n) = r at hcon ⊢
  go_enter Try.func14, Try.ntmps14
  go_wp2_with (go_at_call 37; refine hcon.mono ?_; rintro e w' ⟨rfl, hb'⟩)
  go_ret
  exact ⟨rfl, ((Below.refl _ w).alloc (Nat.le_refl _) _).trans (hb'.mono (by simp))⟩
namespace Vx
def hasL (l : List Rg) (n : Int) : Bool := l.any (inRg n)
def sHas : SpecF
  | [.c (.row 0), .c (.int .i64 x)], [.elems ty one n get] => some (rgPre ty one n get, .c (.bool (hasL (rgL n get) x)), [.dead])
  | _, _ => none
theorem hasP : Fn Try.prog 14 [] [(62, 2)] sHas := by
  refine Fn.plain (by kernel_rfl) (fun args h pre res h' hs => ?_) fun args h pre res h' hs hp ρ W us rel hus => ?_
  · unfold sHas at hs
    split at hs
    · cases hs; exact ⟨rfl, Nat.le_refl _⟩
    · cases hs
  · unfold sHas at hs
    split at hs
    rotate_left
    · cases hs
    rename_i x ty one n get
    cases hs
    obtain ⟨rfl, rfl, hst, hn⟩ := hp
    obtain ⟨v, us', rfl, hv, u2, us2, rfl, hu2, hus'⟩ := hus
    cases hus'
    obtain rfl : .int .i64 x = u2 := Option.some.inj hu2
    obtain ⟨p, hpl, hok⟩ := rel.place (k := 0) rfl
    obtain ⟨q, hq, hvq⟩ := den_row hv
    rw [hpl] at hq
    obtain rfl := Option.some.inj hq
    subst hvq
    obtain ⟨⟨a, cap, hpv, hcap, ha⟩, hcells⟩ := hok
    have hzl : (rgL n get).length = n := rgL_len
    have fin : ∀ (b : Bool) (W' : World), b = hasL (rgL n get) x → Below W.heap.size W W' → ∃ ρ', (SV.c (.bool (hasL (rgL n get) x))).is (ρ ++ ρ') (.bool b) ∧ Rel W (Fps ρ [.elems 62 2 n get]) (ρ ++ ρ') [.dead] W' := fun b W' hb hbel => by
      refine ⟨[], by rw [hb]; rfl, ?_⟩
      rw [List.append_nil]
      refine (rel.belowStep hbel).forget (fun j e he => ?_) rfl
      cases j with
      | zero => left; exact (Option.some.inj he).symm
      | succ j => simp at he
    rw [hpv]
    rcases Nat.eq_zero_or_pos n with h0 | h0
    · subst h0
      refine Calls.mono (hasEmpty a cap x W) fun e W' he => ?_
      obtain ⟨rfl, hb⟩ := he
      obtain ⟨ρ', f1, f2⟩ := fin false W' (by
        have : rgL 0 get = [] := rfl
        rw [this]; rfl) hb
      exact ⟨_, ρ', rfl, f1, f2⟩
    · obtain rfl := ha h0
      have hlt : p.b < W.heap.size := (rel.ro (k := 0) rfl hpl rfl (by simp [Ent.dep, h0])).1
      have hcc : ∀ j, j < (rgL n get).length → W.cell? ⟨p.b, p.o + j * 2, none⟩ = some (.int .i64 (rgL n get)[j]!.1) ∧ W.cell? ⟨p.b, p.o + j * 2 + 1, none⟩ = some (.int .i64 (rgL n get)[j]!.2) := fun j hj => by
        obtain ⟨vs, h1, h2⟩ := hcells j (by omega)
        rw [hst.eq (show j < n by omega)] at h1
        obtain rfl : [Value.int .i64 (rA (rgL n get) j), Value.int .i64 (rB (rgL n get) j)] = vs := (show IsL [] (rgG (rgL n get) j) [.int .i64 (rA (rgL n get) j), .int .i64 (rB (rgL n get) j)] from rfl).unique h1
        have e : (rgL n get)[j]! = (rA (rgL n get) j, rB (rgL n get) j) := by
          unfold rA rB
          rw [List.getElem!_eq_getElem?_getD, List.getD_eq_getElem?_getD]
          rfl
        rw [e]
        exact ⟨by simpa using h2 0 _ rfl, by simpa using h2 1 _ rfl⟩
      refine Calls.mono (hasWalk p.b p.o n cap (rgL n get) x W (by omega) (by omega) hlt hcc) fun e W' he => ?_
      obtain ⟨rfl, hb⟩ := he
      rw [List.take_of_length_le (by omega)]
      obtain ⟨ρ', f1, f2⟩ := fin _ W' rfl hb
      exact ⟨_, ρ', rfl, f1, f2⟩
end Vx
end Go.Proofs.Ytonkpggnlkkghaa
end

section
/- What ranges lack, plainly. -/
namespace Go.Proofs.Ytonkpggnlkkghaa.Vx
open Go.RowKit Span
set_option linter.unusedVariables false
set_option linter.unusedSimpArgs false
theorem hasL_iff {l : List Rg} {v : Int} : hasL l v = true ↔ ∃ r ∈ l, r.1 ≤ v ∧ v ≤ r.2 := by
  unfold hasL
  rw [List.any_eq_true]
  simp [inRg]
theorem mem_runs {l : List Rg} {v : Int} : v ∈ runs l ↔ hasL l v = true := by
  rw [hasL_iff]
  unfold runs
  rw [List.mem_flatMap]
  constructor
  · rintro ⟨r, h1, h2⟩; exact ⟨r, h1, mem_runR.1 h2⟩
  · rintro ⟨r, h1, h2⟩; exact ⟨r, h1, mem_runR.2 h2⟩
/-- Ranges that rise, with gaps between them. -/
structure Gaps (l : List Rg) : Prop where
  ok : ∀ r ∈ l, 0 ≤ r.1 ∧ r.1 ≤ r.2 ∧ r.2 ≤ 72057594037927935
  up : l.Pairwise fun r s => r.2 + 2 ≤ s.1
theorem gaps_of_good {l : List Rg} (h : good l = true) : Gaps l := by
  have key : ∀ i (hi : i < l.length), 0 ≤ l[i].1 ∧ l[i].1 ≤ l[i].2 ∧ l[i].2 ≤ 72057594037927935 ∧ ∀ j, (hj : j + 1 = i) → l[j].2 + 2 ≤ l[i].1 := fun i hi => by
    have h1 := good_take h hi
    rw [getD_get hi]
    refine ⟨h1.1, h1.2.1, h1.2.2.1, fun j hj => ?_⟩
    rw [getD_get (show j < l.length by omega)]
    have := h1.2.2.2 (by omega)
    rw [show i - 1 = j by omega] at this
    exact this
  refine ⟨fun r hr => ?_, ?_⟩
  · obtain ⟨i, hi, rfl⟩ := List.getElem_of_mem hr
    exact ⟨(key i hi).1, (key i hi).2.1, (key i hi).2.2.1⟩
  · rw [List.pairwise_iff_getElem]
    intro i j hi hj hij
    obtain ⟨d, rfl⟩ : ∃ d, j = i + 1 + d := ⟨j - i - 1, by omega⟩
    clear hij
    induction d with
    | zero => exact (key (i + 1) hj).2.2.2 i rfl
    | succ d ih =>
      have h1 := ih (by omega)
      have h2 := (key (i + 1 + d) (by omega)).2.1
      have h3 := (key (i + 1 + (d + 1)) hj).2.2.2 (i + 1 + d) rfl
      omega
theorem good_of_gaps {l : List Rg} (h : Gaps l) : good l = true := by
  rw [good_iff]
  intro i hi
  rw [okAt_iff]
  have hm : l.getD i (0, 0) ∈ l := by rw [List.getD_eq_getElem?_getD, List.getElem?_eq_getElem hi]; exact List.getElem_mem hi
  have h1 := h.ok _ hm
  refine ⟨by omega, ?_⟩
  rcases Nat.eq_zero_or_pos i with h0 | h0
  · exact Or.inl h0
  · have h2 := List.pairwise_iff_getElem.1 h.up (i - 1) i (by omega) hi (by omega)
    rw [List.getD_eq_getElem?_getD, List.getD_eq_getElem?_getD, List.getElem?_eq_getElem hi, List.getElem?_eq_getElem (show i - 1 < l.length by omega)]
    simp only [Option.getD_some]
    omega
theorem runR_up (r : Rg) : (runR r).Pairwise (· < ·) := by
  unfold runR
  rw [List.pairwise_map]
  refine List.Pairwise.imp ?_ (List.pairwise_lt_range (n := (r.2 + 1 - r.1).toNat))
  intro a b h
  omega
theorem runs_up {l : List Rg} (h : Gaps l) : (runs l).Pairwise (· < ·) := by
  obtain ⟨h1, h2⟩ := h
  induction l with
  | nil => simp [runs]
  | cons r l ih =>
    rw [List.pairwise_cons] at h2
    show (runR r ++ runs l).Pairwise _
    rw [List.pairwise_append]
    refine ⟨runR_up r, ih (fun x hx => h1 x (by simp [hx])) h2.2, fun a ha b hb => ?_⟩
    rw [mem_runR] at ha
    obtain ⟨s, hs, hb2⟩ := hasL_iff.1 (mem_runs.1 hb)
    have := h2.1 s hs
    omega
theorem up_ext : ∀ {l m : List Int}, l.Pairwise (· < ·) → m.Pairwise (· < ·) → (∀ v, v ∈ l ↔ v ∈ m) → l = m
  | [], [], _, _, _ => rfl
  | [], y :: m, _, _, h => by have := (h y).2 (by simp); simp at this
  | x :: l, [], _, _, h => by have := (h x).1 (by simp); simp at this
  | x :: l, y :: m, hl, hm, h => by
    rw [List.pairwise_cons] at hl hm
    have hxy : x = y := by
      rcases List.mem_cons.1 ((h x).1 (by simp)) with e | e
      · exact e
      · rcases List.mem_cons.1 ((h y).2 (by simp)) with e2 | e2
        · exact e2.symm
        · have := hm.1 x e; have := hl.1 y e2; omega
    subst hxy
    rw [up_ext hl.2 hm.2 fun v => ?_]
    constructor
    · intro hv
      rcases List.mem_cons.1 ((h v).1 (by simp [hv])) with e | e
      · have := hl.1 v hv; omega
      · exact e
    · intro hv
      rcases List.mem_cons.1 ((h v).2 (by simp [hv])) with e | e
      · have := hm.1 v hv; omega
      · exact e
/-- What is found: ranges within the bounds, with gaps, of all that the ranges lack. -/
theorem lk_spec {l : List Rg} (h : Gaps l) (a b : Int) : (∀ r ∈ (lkGo l a b).1 ++ lkEnd (lkGo l a b).2 b, a ≤ r.1 ∧ r.1 ≤ r.2 ∧ r.2 ≤ b) ∧ ((lkGo l a b).1 ++ lkEnd (lkGo l a b).2 b).Pairwise (fun r s => r.2 + 2 ≤ s.1) ∧
    ∀ v, (∃ r ∈ (lkGo l a b).1 ++ lkEnd (lkGo l a b).2 b, r.1 ≤ v ∧ v ≤ r.2) ↔ a ≤ v ∧ v ≤ b ∧ ¬ ∃ r ∈ l, r.1 ≤ v ∧ v ≤ r.2 := by
  obtain ⟨h1, h2⟩ := h
  induction l generalizing a with
  | nil =>
    show (∀ r ∈ [] ++ lkEnd a b, _) ∧ ([] ++ lkEnd a b).Pairwise _ ∧ _
    have e : ∀ v, (∃ r ∈ (lkGo [] a b).1 ++ lkEnd (lkGo [] a b).2 b, r.1 ≤ v ∧ v ≤ r.2) ↔ ∃ r ∈ lkEnd a b, r.1 ≤ v ∧ v ≤ r.2 := fun v => Iff.rfl
    simp only [e]
    rw [List.nil_append]
    unfold lkEnd
    split
    · rename_i hab
      refine ⟨fun r hr => ?_, by simp, fun v => ?_⟩
      · rw [List.mem_singleton.1 hr]; simp only; omega
      · simp
    · rename_i hab
      refine ⟨fun r hr => by simp at hr, by simp, fun v => ?_⟩
      simp
      omega
  | cons r l ih =>
    have hr := h1 r (by simp)
    rw [List.pairwise_cons] at h2
    obtain ⟨i1, i2, i3⟩ := ih (max a (r.2 + 1)) (fun x hx => h1 x (by simp [hx])) h2.2
    have e1 : (lkGo (r :: l) a b).1 ++ lkEnd (lkGo (r :: l) a b).2 b = (if a < r.1 ∧ a ≤ b then [(a, min (r.1 - 1) b)] else []) ++ ((lkGo l (max a (r.2 + 1)) b).1 ++ lkEnd (lkGo l (max a (r.2 + 1)) b).2 b) := List.append_assoc _ _ _
    rw [e1]
    generalize (lkGo l (max a (r.2 + 1)) b).1 ++ lkEnd (lkGo l (max a (r.2 + 1)) b).2 b = T at i1 i2 i3 ⊢
    have hL : ∀ v, (∃ s ∈ r :: l, s.1 ≤ v ∧ v ≤ s.2) ↔ (r.1 ≤ v ∧ v ≤ r.2) ∨ ∃ s ∈ l, s.1 ≤ v ∧ v ≤ s.2 := fun v => by simp
    by_cases hc : a < r.1 ∧ a ≤ b
    · rw [if_pos hc]
      refine ⟨fun s hs => ?_, ?_, fun v => ?_⟩
      · rcases List.mem_append.1 hs with h | h
        · rw [List.mem_singleton.1 h]; simp only; omega
        · have := i1 s h; omega
      · rw [List.pairwise_append]
        refine ⟨by simp, i2, fun x hx y hy => ?_⟩
        rw [List.mem_singleton.1 hx]
        have := i1 y hy
        simp only
        omega
      · have hT : (∃ s ∈ [(a, min (r.1 - 1) b)] ++ T, s.1 ≤ v ∧ v ≤ s.2) ↔ (a ≤ v ∧ v ≤ min (r.1 - 1) b) ∨ ∃ s ∈ T, s.1 ≤ v ∧ v ≤ s.2 := by simp
        rw [hT, i3 v, hL v]
        constructor
        · rintro (⟨g1, g2⟩ | ⟨g1, g2, g3⟩)
          · refine ⟨g1, by omega, ?_⟩
            rintro (g | ⟨s, hs, g⟩)
            · omega
            · have := h2.1 s hs; omega
          · refine ⟨by omega, g2, ?_⟩
            rintro (g | g)
            · omega
            · exact g3 g
        · rintro ⟨g1, g2, g3⟩
          have g4 : ¬ (r.1 ≤ v ∧ v ≤ r.2) := fun g => g3 (Or.inl g)
          by_cases g5 : v < r.1
          · left; omega
          · right; exact ⟨by omega, g2, fun g => g3 (Or.inr g)⟩
    · rw [if_neg hc, List.nil_append]
      refine ⟨fun s hs => ?_, i2, fun v => ?_⟩
      · have := i1 s hs; omega
      · rw [i3 v, hL v]
        constructor
        · rintro ⟨g1, g2, g3⟩
          refine ⟨by omega, g2, ?_⟩
          rintro (g | g)
          · omega
          · exact g3 g
        · rintro ⟨g1, g2, g3⟩
          have g4 : ¬ (r.1 ≤ v ∧ v ≤ r.2) := fun g => g3 (Or.inl g)
          exact ⟨by omega, g2, fun g => g3 (Or.inr g)⟩
structure LacksFacts (l : List Rg) (a b : Int) : Prop where
  good : Span.good (lacksL l a b) = true
  has : ∀ v, hasL (lacksL l a b) v = true ↔ a ≤ v ∧ v ≤ b ∧ hasL l v = false
  runs : ∀ c, c = (if a ≤ b then b + 1 else a) → Span.runs (lacksL l a b) = (seqR a c).filter (hasL (lacksL l a b))
  len : (lacksL l a b).length ≤ l.length + 1
theorem mem_seqR {a c v : Int} : v ∈ seqR a c ↔ a ≤ v ∧ v < c := by
  simp only [seqR, List.mem_map, List.mem_range]
  constructor
  · rintro ⟨i, hi, rfl⟩; omega
  · intro h; exact ⟨(v - a).toNat, by omega, by omega⟩
theorem lkGo_len (l : List Rg) (a b : Int) : (lkGo l a b).1.length ≤ l.length := by
  induction l generalizing a with
  | nil => exact Nat.le_refl _
  | cons r l ih =>
    show ((if a < r.1 ∧ a ≤ b then [(a, min (r.1 - 1) b)] else []) ++ (lkGo l (max a (r.2 + 1)) b).1).length ≤ _
    have := ih (max a (r.2 + 1))
    split <;> simp <;> omega
theorem lacksFacts {l : List Rg} (hg : good l = true) {a b : Int} (ha : 0 ≤ a) (hb : b ≤ 72057594037927935) : LacksFacts l a b := by
  have e : lacksL l a b = (lkGo l a b).1 ++ lkEnd (lkGo l a b).2 b := by
    unfold lacksL
    rw [if_pos hg, show max a 0 = a by omega, show min b 72057594037927935 = b by omega]
  obtain ⟨s1, s2, s3⟩ := lk_spec (gaps_of_good hg) a b
  have hl : (lacksL l a b).length ≤ l.length + 1 := by
    rw [e, List.length_append]
    have := lkGo_len l a b
    have h2 : (lkEnd (lkGo l a b).2 b).length ≤ 1 := by unfold lkEnd; split <;> simp
    omega
  rw [← e] at s1 s2 s3
  have hgaps : Gaps (lacksL l a b) := ⟨fun r hr => by have := s1 r hr; omega, s2⟩
  have hhas : ∀ v, hasL (lacksL l a b) v = true ↔ a ≤ v ∧ v ≤ b ∧ hasL l v = false := fun v => by
    rw [hasL_iff, s3 v, ← hasL_iff, Bool.not_eq_true]
  refine ⟨good_of_gaps hgaps, hhas, fun c hc => ?_, hl⟩
  refine up_ext (runs_up hgaps) ?_ fun v => ?_
  · refine List.Pairwise.filter _ ?_
    unfold seqR
    rw [List.pairwise_map]
    refine List.Pairwise.imp ?_ (List.pairwise_lt_range (n := (c - a).toNat))
    intro x y h
    omega
  · rw [mem_runs, List.mem_filter, mem_seqR]
    constructor
    · intro h
      have := (hhas v).1 h
      refine ⟨⟨this.1, ?_⟩, h⟩
      rw [hc, if_pos (by omega)]
      omega
    · exact fun h => h.2
end Go.Proofs.Ytonkpggnlkkghaa.Vx
end
