/- The law SpanWhole, by the walker. -/
import Derived.Test.YtonkpggnlkkghaaM19
import Derived.Test.YtonkpggnlkkghaaM20
namespace Go.Proofs.Ytonkpggnlkkghaa.Vx
open Go.RowKit Span
set_option linter.unusedVariables false
set_option linter.unusedSimpArgs false
def rgPre2 (ty one n : Nat) (get : Nat → List CV) : Prop := ty = 62 ∧ one = 2 ∧ RgAt n get
structure LWh (a b : Int) (M : List Rg) where
  v : Int
  c : Int
  h0 : a ≤ v
  h1 : v ≤ max a (b + 1)
  h2 : c = (((seqR a v).filter (hasL M)).length : Int)
theorem seqR_len {a v : Int} (h : a ≤ v) : ((seqR a v).length : Int) = v - a := by
  unfold seqR
  simp only [List.length_map, List.length_range]
  omega
def sSpanWhole : SpecF
  | [.c (.row 0), .c (.int .i64 a), .c (.int .i64 b)], [.elems ty one n get] => some (rgPre2 ty one n get, .c .tt, [.dead])
  | _, _ => none

set_option maxRecDepth 100000 in
set_option maxHeartbeats 16000000 in
theorem spanWholeP : Fn Try.prog 4 [] [(62, 2)] sSpanWhole := by
  have hC : CtsOk Try.prog [(8, appFn [] [] sFirst23), (12, appFn [] [(62, 2)] sGood), (13, appFn [] [(62, 2)] sLacks), (14, appFn [] [(62, 2)] sHas), (11, appFn [] [(62, 2)] sCount)] := CtsOk.cons (Fn.ct first23P) <| CtsOk.cons (Fn.ct goodP) <| CtsOk.cons (Fn.ct lacksP) <| CtsOk.cons (Fn.ct hasP) <| CtsOk.cons (Fn.ct countP) <| CtsOk.nil _
  refine Fn.of (E := tbG) [] 0 [] tbG_ok hC (by kernel_rfl) Try.func4 rfl rfl rfl (by kernel_rfl) (by kernel_rfl) 1 5 1 ?_ ?_
  · intro args h pre r h' hs
    unfold sSpanWhole at hs
    split at hs
    · cases hs; exact ⟨rfl, rfl, Nat.le_of_ble_eq_true rfl⟩
    · cases hs
  · intro args h pre r h' hs hp
    unfold sSpanWhole at hs
    split at hs
    rotate_left
    · cases hs
    rename_i a b ty one n get
    cases hs
    obtain ⟨rfl, rfl, hst⟩ := hp
    refine ⟨[.elems 62 2 n (rgG (rgL n get))], hst.same, ?_⟩
    have hL : (rgL n get).length = n := rgL_len
    generalize rgL n get = L at hL ⊢
    have eL : rgL n (rgG L) = L := by rw [← hL]; exact rgL_rgG L
    unfold sFirst23 sGood sLacks sHas sCount
    generalize hg0 : (List.length : List Rg → Nat) = g0
    generalize hL : lft Try.prog _ = L
    try unfold rgG
    generalize ho0 : @rA = zo0, ho1 : @rB = zo1, ho2 : @rgL = zo2, ho3 : @good = zo3, ho4 : @runs = zo4, ho5 : @count = zo5, ho6 : @lacksL = zo6, ho7 : @countG = zo7, ho8 : @seqR = zo8, ho9 : @rgPre = zo9, ho10 : @hasL = zo10, ho11 : @rgPre2 = zo11
    generalize hA : Arith.std = A
    cbv
    subst hA hg0 hL ho0 ho1 ho2 ho3 ho4 ho5 ho6 ho7 ho8 ho9 ho10 ho11
    refine Need.mk trivial fun _ => ?_
    refine Ife.mk (fun _ => Need.mk trivial fun _ => by exact ⟨[0], ⟨rfl, by repeat' (first | exact trivial | exact rfl | apply And.intro), by decide, rfl, by repeat' (first | exact trivial | exact rfl | apply And.intro)⟩⟩) (fun h1 => ?_)
    have h1 : ¬ (30 : Int) < (n : Int) := of_decide_eq_false (p := (30 : Int) < (n : Int)) h1
    have pL : rgPre 62 2 n (rgG L) := ⟨rfl, rfl, rgAt_rgG _ _, by omega⟩
    refine Need.mk pL fun _ => ?_
    rw [eL]
    refine Ife.mk (fun _ => Need.mk trivial fun _ => by exact ⟨[0], ⟨rfl, by repeat' (first | exact trivial | exact rfl | apply And.intro), by decide, rfl, by repeat' (first | exact trivial | exact rfl | apply And.intro)⟩⟩) (fun hg => ?_)
    have hg : good L = true := by
      have h6 : (!good L) = false := hg
      simpa using h6
    refine Ife.mk (fun _ => Need.mk trivial fun _ => by exact ⟨[0], ⟨rfl, by repeat' (first | exact trivial | exact rfl | apply And.intro), by decide, rfl, by repeat' (first | exact trivial | exact rfl | apply And.intro)⟩⟩) (fun h2 => ?_)
    have h2 : ¬ a < 0 := of_decide_eq_false (p := a < 0) h2
    refine Ife.mk (fun _ => Need.mk trivial fun _ => by exact ⟨[0], ⟨rfl, by repeat' (first | exact trivial | exact rfl | apply And.intro), by decide, rfl, by repeat' (first | exact trivial | exact rfl | apply And.intro)⟩⟩) (fun h3 => ?_)
    have h3 : ¬ 72057594037927935 < a := of_decide_eq_false (p := 72057594037927935 < a) h3
    refine Ife.mk (fun _ => Need.mk trivial fun _ => by exact ⟨[0], ⟨rfl, by repeat' (first | exact trivial | exact rfl | apply And.intro), by decide, rfl, by repeat' (first | exact trivial | exact rfl | apply And.intro)⟩⟩) (fun h4 => ?_)
    have h4 : ¬ b < 0 := of_decide_eq_false (p := b < 0) h4
    refine Ife.mk (fun _ => Need.mk trivial fun _ => by exact ⟨[0], ⟨rfl, by repeat' (first | exact trivial | exact rfl | apply And.intro), by decide, rfl, by repeat' (first | exact trivial | exact rfl | apply And.intro)⟩⟩) (fun h5 => ?_)
    have h5 : ¬ 72057594037927935 < b := of_decide_eq_false (p := 72057594037927935 < b) h5
    refine Need.mk (by show fitStd .i64 (b - a); unfold fitStd; omega) fun _ => ?_
    refine Ife.mk (fun _ => Need.mk trivial fun _ => by exact ⟨[0], ⟨rfl, by repeat' (first | exact trivial | exact rfl | apply And.intro), by decide, rfl, by repeat' (first | exact trivial | exact rfl | apply And.intro)⟩⟩) (fun h6 => ?_)
    have h6 : ¬ 300 < b - a := of_decide_eq_false (p := 300 < b - a) h6
    obtain ⟨fg, fh, fr, fl⟩ := lacksFacts (l := L) (a := a) (b := b) hg (by omega) (by omega)
    have fc : count (lacksL L a b) = ((runs (lacksL L a b)).length : Int) := count_len fun r hr => ((gaps_of_good fg).ok r hr).2.1
    generalize lacksL L a b = M at fg fh fr fl fc ⊢
    have eM : rgL M.length (rgG M) = M := rgL_rgG M
    obtain ⟨m, hm⟩ : ∃ m, M.length = m := ⟨_, rfl⟩
    rw [hm] at eM fl
    rw [hm]
    have pM : rgPre 62 2 m (rgG M) := ⟨rfl, rfl, rgAt_rgG _ _, by omega⟩
    refine Need.mk pL fun _ => Need.mk pM fun _ => ?_
    rw [eM]
    refine Ife.mk (fun h => absurd (show (!good M) = true from h) (by rw [fg]; decide)) (fun _ => ?_)
    show Runs Try.prog 1 (.loop _) _ _
    refine loop_ruleR (N := env (lft Try.prog 1) 0 .std tbG [(8, appFn [] [] sFirst23), (12, appFn [] [(62, 2)] sGood), (13, appFn [] [(62, 2)] sLacks), (14, appFn [] [(62, 2)] sHas), (11, appFn [] [(62, 2)] sCount)] []) rfl tbG_ok hC (fun c st K _ h => h) (by kernel_rfl) [] (X := LWh a b M)
      (S := fun x => ⟨[.c (.row 0), .c (.int .i64 a), .c (.int .i64 b), .any, .any, .any, .any, .c (.row 3), .c (.int .i64 x.c), .c (.int .i64 x.v)] ++ List.replicate 76 .any, [.elems 62 2 n (rgG L), .dead, .dead, .row 62 2 m (rgG M), .dead]⟩) (μ := fun x => (max a (b + 1) - x.v).toNat) ⟨a, 0, by omega, by omega, by rw [seqR_self]; rfl⟩ (by kernel_rfl) [0, 1, 2, 3, 4] ?_ ?_
    · refine ⟨rfl, by decide, ?_, ?_⟩ <;> repeat' (first | exact trivial | exact rfl | apply And.intro | (intro i hi; rfl) | (intro i hi; exact absurd hi (Nat.not_lt_zero _)))
    rintro ⟨v, c, hv0, hv1, hc⟩
    unfold sHas
    generalize hL : lft Try.prog _ = L
    try dsimp only
    try unfold rgG
    generalize ho0 : @rA = zo0, ho1 : @rB = zo1, ho2 : @rgL = zo2, ho3 : @good = zo3, ho4 : @runs = zo4, ho5 : @count = zo5, ho6 : @lacksL = zo6, ho7 : @countG = zo7, ho8 : @seqR = zo8, ho9 : @rgPre = zo9, ho10 : @hasL = zo10, ho11 : @rgPre2 = zo11
    generalize hA : Arith.std = A
    cbv
    subst hA hL ho0 ho1 ho2 ho3 ho4 ho5 ho6 ho7 ho8 ho9 ho10 ho11
    replace hv0 : a ≤ v := hv0
    replace hv1 : v ≤ max a (b + 1) := hv1
    replace hc : c = (((seqR a v).filter (hasL M)).length : Int) := hc
    have hcl : c ≤ v - a := by
      have h7 : ((seqR a v).filter (hasL M)).length ≤ (seqR a v).length := List.length_filter_le _ _
      have h8 := seqR_len hv0
      omega
    refine Ife.mk (fun hle => ?_) (fun hle => ?_)
    · have hle : v ≤ b := of_decide_eq_true (p := v ≤ b) hle
      refine Need.mk pL fun _ => Need.mk pM fun _ => ?_
      rw [eL, eM]
      have hh := fh v
      have hne : (hasL L v == hasL M v) = false := by
        cases h7 : hasL L v <;> cases h8 : hasL M v
        · exact absurd (hh.2 ⟨hv0, hle, h7⟩) (by rw [h8]; decide)
        · rfl
        · rfl
        · exact absurd (hh.1 h8).2.2 (by rw [h7]; decide)
      refine Ife.mk (fun h => absurd (hne.symm.trans h) (by decide)) (fun _ => ?_)
      refine Need.mk pM fun _ => ?_
      refine Ife.mk (fun hb => ?_) (fun hb => ?_)
      · have hb : hasL M v = true := hb
        refine Need.mk (by show fitStd .i64 (c + 1); unfold fitStd; omega) fun _ => ?_
        refine Need.mk (by show fitStd .i64 (v + 1); unfold fitStd; omega) fun _ => ?_
        refine ⟨⟨v + 1, c + 1, by omega, by omega, ?h2⟩, [0, 1, 2, 3, 4], (by show (max a (b + 1) - (v + 1)).toNat < (max a (b + 1) - v).toNat; omega), ?st⟩
        case st => refine ⟨rfl, by decide, ?_, ?_⟩ <;> repeat' (first | exact trivial | exact rfl | apply And.intro | (intro i hi; rfl) | (intro i hi; exact absurd hi (Nat.not_lt_zero _)))
        case h2 => rw [seqR_succ hv0, List.filter_append, List.length_append, hc, List.filter_cons, if_pos hb]; simp
      · have hb : hasL M v = false := hb
        refine Need.mk (by show fitStd .i64 (v + 1); unfold fitStd; omega) fun _ => ?_
        refine ⟨⟨v + 1, c, by omega, by omega, ?h2⟩, [0, 1, 2, 3, 4], (by show (max a (b + 1) - (v + 1)).toNat < (max a (b + 1) - v).toNat; omega), ?st⟩
        case st => refine ⟨rfl, by decide, ?_, ?_⟩ <;> repeat' (first | exact trivial | exact rfl | apply And.intro | (intro i hi; rfl) | (intro i hi; exact absurd hi (Nat.not_lt_zero _)))
        case h2 => rw [seqR_succ hv0, List.filter_append, List.length_append, hc, List.filter_cons, if_neg (by rw [hb]; decide)]; simp
    · have hle : ¬ v ≤ b := of_decide_eq_false (p := v ≤ b) hle
      have ev := fr v (by split <;> omega)
      have ec : decide (countG M = c) = true := decide_eq_true (by unfold countG; rw [if_pos fg, fc, ev, hc])
      refine Need.mk pM fun _ => ?_
      rw [eM]
      refine Ife.mk (fun _ => ?_) (fun h => absurd (ec.symm.trans h) (by decide))
      refine Need.mk (by show fitStd .i64 (a - 1); unfold fitStd; omega) fun _ => Need.mk pM fun _ => ?_
      have z1 : (!hasL M (a - 1)) = true := by
        cases h7 : hasL M (a - 1)
        · rfl
        · have := (fh (a - 1)).1 h7; omega
      have z2 : (!hasL M (b + 1)) = true := by
        cases h7 : hasL M (b + 1)
        · rfl
        · have := (fh (b + 1)).1 h7; omega
      refine Ife.mk (fun _ => ?_) (fun h => absurd (z1.symm.trans h) (by decide))
      refine Need.mk (by show fitStd .i64 (b + 1); unfold fitStd; omega) fun _ => Need.mk pM fun _ => ?_
      exact ⟨[0], ⟨rfl, z2, by decide, rfl, by repeat' (first | exact trivial | exact rfl | apply And.intro)⟩⟩

end Go.Proofs.Ytonkpggnlkkghaa.Vx
namespace Go.Proofs.Ytonkpggnlkkghaa
open Go.RowKit
set_option linter.unusedVariables false
theorem spanWholeWalk (w : World) (p : Option Addr) (cap : Nat) (ls : List (Int × Int)) (hs : SlIn w p 2 cap (ls.map fun r => [.int .i64 r.1, .int .i64 r.2])) (a : Int) (_ha : -9223372036854775808 ≤ a ∧ a ≤ 9223372036854775807) (b : Int) (_hb : -9223372036854775808 ≤ b ∧ b ≤ 9223372036854775807) :
    Calls Try.prog 4 #[.slice p ls.length cap, .int .i64 a, .int .i64 b] w fun e w' => e = .returned (.bool true) ∧ Below w.heap.size w w' := by
  obtain ⟨q, hq, g⟩ := rgs_good hs
  rw [← hq]
  refine Calls.mono (Vx.spanWholeP.run [.c (.row 0), .c (.int .i64 a), .c (.int .i64 b)] [.elems 62 2 ls.length (Vx.rgG ls)] _ _ _ rfl ⟨rfl, rfl, Vx.rgAt_rgG _ _⟩ [q] w _ (Vx.Rel.addV (Vx.Rel.refl w) 62 g) ⟨_, _, rfl, (by obtain ⟨a', cap', e, _⟩ := g.sl; simp [Vx.SV.is, Vx.CV.den, e, Vx.one] : Vx.SV.is [q] (.c (.row 0)) q.v), _, _, rfl, rfl, _, _, rfl, rfl, rfl⟩) fun e W' he => ?_
  obtain ⟨u, ρ', rfl, hu, hr⟩ := he
  obtain rfl : .bool true = u := Option.some.inj hu
  exact ⟨rfl, Vx.Rel.toBelow hr⟩
end Go.Proofs.Ytonkpggnlkkghaa
