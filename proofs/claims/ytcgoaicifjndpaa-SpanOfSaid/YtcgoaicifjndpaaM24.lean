/- ligkeep.Kept: is a slice with spare room as it was lent? -/
import Derived.Test.YtcgoaicifjndpaaVLend
import Derived.Test.YtcgoaicifjndpaaM21
import Derived.Test.YtcgoaicifjndpaaM22
section
namespace Go.Proofs.Ytcgoaicifjndpaa.Vx
open Go.RowKit Span
set_option linter.unusedVariables false
set_option linter.unusedSimpArgs false
theorem intsWalk {W : World} {n n' : Nat} {L K : List Int} {p q : Pl} (hn : L.length = n) (hn' : K.length = n') (h1 : n ≤ 1000000) (h2 : n' ≤ 1000000) (g : Good W 1 (n, inG L) p) (g' : Good W 1 (n', inG K) q) :
    Calls Try.prog 35 #[p.v, q.v] W fun e W' => e = .returned (.bool (decide (L = K))) ∧ Below W.heap.size W W' := by
  have e1 : iL n (inG L) = L := by rw [← hn]; exact iL_inG L
  have e2 : iL n' (inG K) = K := by rw [← hn']; exact iL_inG K
  refine Calls.mono (eqIP.run [.c (.row 0), .c (.row 1)] [.elems 3 1 n (inG L), .elems 3 1 n' (inG K)] _ _ _ rfl ⟨⟨rfl, rfl, inAt_inG _ _, h1⟩, ⟨rfl, rfl, inAt_inG _ _, h2⟩⟩ [p, q] W _ (Rel.addV (Rel.addV (Rel.refl W) 3 g) 3 g') ⟨_, _, rfl, (by obtain ⟨a', cap', e, _⟩ := g.sl; simp [SV.is, CV.den, e, one] : SV.is [p, q] (.c (.row 0)) p.v), _, _, rfl, (by obtain ⟨a', cap', e, _⟩ := g'.sl; simp [SV.is, CV.den, e, one] : SV.is [p, q] (.c (.row 1)) q.v), rfl⟩) fun e W' he => ?_
  obtain ⟨u, ρ', rfl, hu, hr⟩ := he
  obtain rfl := Option.some.inj hu
  rw [e1, e2]
  exact ⟨rfl, Rel.toBelow hr⟩
set_option maxRecDepth 100000 in
set_option maxHeartbeats 2000000 in
theorem keptWalk (W : World) (b n c : Nat) (cur : Array Value) (x y : Int) (L K : List Int) (q : Pl) (n' : Nat) (hn : L.length = n) (hn' : K.length = n') (h1 : n ≤ 1000000) (h2 : n' ≤ 1000000) (hc : n + 2 ≤ c) (hmx : c ≤ maxLen)
    (B : Blk W b 3 cur) (hx : cur[n]? = some (.int .i64 x)) (hy : cur[n + 1]? = some (.int .i64 y))
    (g : Good W 1 (n, inG L) ⟨b, .slice (some ⟨b, 0, none⟩) n c, 0⟩) (g' : Good W 1 (n', inG K) q) :
    Calls Try.prog 20 #[.slice (some ⟨b, 0, none⟩) n c, q.v] W fun e W' => e = .returned (.bool (decide (L = K) && (decide (x = -777) && decide (y = -777)))) ∧ Below W.heap.size W W' := by
  have hI := intsWalk hn hn' h1 h2 g g'
  have hmx' : c ≤ 9223372036854775807 := hmx
  obtain ⟨a', cap', hq, -⟩ := g'.sl
  rw [hq] at hI ⊢
  go_enter Try.func20, Try.ntmps20
  go_wp2_with (go_at_call 35; refine hI.mono ?_; rintro e w2 ⟨rfl, hb2⟩; have hc1 := ((B.below hb2 B.lt).cell n).trans hx; have hc2 := ((B.below hb2 B.lt).cell (n + 1)).trans hy)
  all_goals go_ret
  all_goals exact ⟨ret_bool (by simp_all <;> rfl), hb2⟩
def keptPre (n m n' : Nat) (get get' : Nat → List CV) : Prop := InAt m get ∧ m = n + 2 ∧ InAt n' get' ∧ m ≤ 1000000 ∧ n' ≤ 1000000
def keptB (n m n' : Nat) (get get' : Nat → List CV) : Bool := decide ((iL m get).take n = iL n' get') && (decide (iA (iL m get) n = -777) && decide (iA (iL m get) (n + 1) = -777))
def appKept : App := fun args h => match args with
  | [.c (.vsl k lo n sz), .c (.row j)] => match h[k]?, h[j]? with
    | some (.row e s m get), some (.elems e' s' n' get') => match Nat.beq e 3 && Nat.beq s 1 && Nat.beq lo 0 && Nat.beq sz 1 && Nat.beq s' 1 && Nat.beq e' 3 with
      | true => some ⟨keptPre n m n' get get', .c (.bool (keptB n m n' get get')), h, []⟩
      | false => none
    | _, _ => none
  | _ => none
theorem keptCt : CtOk Try.prog 20 appKept := by
  have hsp : ∀ args h r, appKept args h = some r → ∃ k n m get j n' get', args = [.c (.vsl k 0 n 1), .c (.row j)] ∧ h[k]? = some (.row 3 1 m get) ∧ h[j]? = some (.elems 3 1 n' get') ∧ r = ⟨keptPre n m n' get get', .c (.bool (keptB n m n' get get')), h, []⟩ := fun args h r hr => by
    unfold appKept at hr
    split at hr
    · rename_i k lo n sz j
      split at hr
      · rename_i e s m get e' s' n' get' hk hj
        split at hr
        · rename_i hb
          simp only [Bool.and_eq_true, Nat.beq_eq] at hb
          obtain ⟨⟨⟨⟨⟨rfl, rfl⟩, rfl⟩, rfl⟩, rfl⟩, rfl⟩ := hb
          exact ⟨k, n, m, get, j, n', get', rfl, hk, hj, (Option.some.inj hr).symm⟩
        · cases hr
      · cases hr
    · cases hr
  refine ⟨callable_spec (by kernel_rfl), fun args h r hr => ?_, fun args h r hr hpre w0 G ρ W us rel hus => ?_⟩
  · obtain ⟨k, n, m, get, j, n', get', rfl, hk, hj, rfl⟩ := hsp args h r hr
    exact ⟨Nat.le_refl _, fun _ _ _ => rfl⟩
  · obtain ⟨k, n, m, get, j, n', get', rfl, hk, hj, rfl⟩ := hsp args h r hr
    obtain ⟨hin, hm, hin', h1, h2⟩ : keptPre n m n' get get' := hpre
    obtain ⟨v, us1, rfl, hv, hus1⟩ := hus
    obtain ⟨v', us2, rfl, hv', hus2⟩ := hus1
    cases hus2
    obtain ⟨p, hp, hok⟩ := rel.place hk
    obtain ⟨vs, ⟨g1, g2, g3⟩, g4⟩ := hok
    obtain ⟨p0, a0, m0, cap0, hp0, hpv0, hle, rfl⟩ := den_vsl hv
    rw [hp] at hp0
    obtain rfl := Option.some.inj hp0
    obtain ⟨q, hq, hok'⟩ := rel.place hj
    obtain ⟨q0, hq0, hvq⟩ := den_row hv'
    rw [hq] at hq0
    obtain rfl := Option.some.inj hq0
    subst hvq
    have hml : (iL m get).length = m := iL_len
    have hnl' : (iL n' get').length = n' := iL_len
    have hvs := ints_of hin (by have := g4.1; omega) g1
    rcases g4.2 with ⟨hpv, hn0⟩ | ⟨g, cap, cur, hpv, _, hh, hc1, hc2, hc3, hc4⟩
    · omega
    · rw [hpv] at hpv0
      obtain ⟨rfl, rfl, rfl⟩ : some (⟨g, 0, none⟩ : Addr) = a0 ∧ m = m0 ∧ cap = cap0 := by cases hpv0; exact ⟨rfl, rfl, rfl⟩
      have hcur : ∀ i, i < m → cur[i]? = some (.int .i64 (iA (iL m get) i)) := fun i hi => by
        have := congrArg (fun l => l[i]?) hc4
        rw [hvs] at this
        simp only [List.getElem?_take, Nat.mul_one] at this
        rw [if_pos hi, List.getElem?_map] at this
        rw [Array.getElem?_toList] at this
        rw [this, List.getElem?_eq_getElem (by rw [hml]; exact hi)]
        simp [iA, List.getD, hml, hi]
      have hlen : ((iL m get).take n).length = n := by rw [List.length_take]; omega
      have gl : Good W 1 (n, inG ((iL m get).take n)) ⟨g, .slice (some ⟨g, 0, none⟩) n cap, 0⟩ := by
        refine ⟨⟨_, cap, rfl, by show n ≤ cap; omega, fun _ => rfl⟩, fun _ => (Array.getElem?_eq_some_iff.1 hh).1, fun i hi => ⟨[.int .i64 (iA ((iL m get).take n) i)], rfl, fun j w hj => ?_⟩⟩
        have hi : i < n := hi
        cases j with
        | succ j => simp at hj
        | zero =>
          have hw : Value.int .i64 (iA ((iL m get).take n) i) = w := by simpa using hj
          subst hw
          rw [cell_of_row W g _ _ _ (0, 0) hh]
          have e : iA ((iL m get).take n) i = iA (iL m get) i := by
            unfold iA
            rw [List.getD_eq_getElem?_getD, List.getD_eq_getElem?_getD, List.getElem?_take, if_pos hi]
          rw [e]
          have := hcur i (by omega)
          simpa using this
      have gr : Good W 1 (n', inG (iL n' get')) q := by
        obtain ⟨⟨a, c, e1, e2, e3⟩, hcl⟩ := hok'
        refine ⟨⟨a, c, e1, e2, e3⟩, fun h0 => ?_, fun i hi => ?_⟩
        · obtain ⟨vs, k1, k2⟩ := hcl 0 h0
          obtain ⟨x, hx⟩ := hin' 0 h0
          rw [hx] at k1
          obtain rfl : [Value.int .i64 x] = vs := (show IsL [] [.int .i64 x] [.int .i64 x] from rfl).unique k1
          exact World.block_lt_of_cell? W _ (k2 0 _ rfl)
        · obtain ⟨vs, k1, k2⟩ := hcl i hi
          exact ⟨vs, by show IsL [] (inG (iL n' get') i) vs; rw [← hin'.eq hi]; exact k1, k2⟩
      have e0 : (if cap = 0 then some (⟨g, 0, none⟩ : Addr) else (some (⟨g, 0, none⟩ : Addr)).map (·.add (0 * 1))) = some ⟨g, 0, none⟩ := by
        split
        · rfl
        · simp [Addr.add]
      rw [e0, Nat.sub_zero]
      refine Calls.mono (keptWalk W g n cap cur (iA (iL m get) n) (iA (iL m get) (n + 1)) ((iL m get).take n) (iL n' get') q n' hlen hnl' (by omega) h2 (by omega) hc2 hh (hcur n (by omega)) (hcur (n + 1) (by omega)) gl gr) fun e W' he => ?_
      obtain ⟨rfl, hb⟩ := he
      exact ⟨_, [], rfl, rfl, by rw [List.append_nil]; exact rel.belowStep hb⟩
end Go.Proofs.Ytcgoaicifjndpaa.Vx
end

section
/- The law SpanOf, by the walker. -/
namespace Go.Proofs.Ytcgoaicifjndpaa.Vx
open Go.RowKit Span
set_option linter.unusedVariables false
set_option linter.unusedSimpArgs false
def ofD (zs : List Int) : List Rg := zs.foldl addL []
theorem addL_all : ∀ (zs : List Int) (l : List Rg), GP l → GP (zs.foldl addL l) ∧ ∀ v, v ∈ runs (zs.foldl addL l) ↔ v ∈ runs l ∨ (v ∈ zs ∧ mayN v = true)
  | [], l, h => ⟨h, fun v => by simp⟩
  | z :: zs, l, h => by
    obtain ⟨g, m⟩ := addL_ok (n := z) h
    obtain ⟨g2, m2⟩ := addL_all zs (addL l z) g
    refine ⟨g2, fun v => ?_⟩
    rw [List.foldl_cons, m2 v, m v, List.mem_cons]
    constructor
    · rintro ((h1 | ⟨rfl, h2⟩) | ⟨h1, h2⟩)
      · exact Or.inl h1
      · exact Or.inr ⟨Or.inl rfl, h2⟩
      · exact Or.inr ⟨Or.inr h1, h2⟩
    · rintro (h1 | ⟨rfl | h1, h2⟩)
      · exact Or.inl (Or.inl h1)
      · exact Or.inl (Or.inr ⟨rfl, h2⟩)
      · exact Or.inr ⟨h1, h2⟩
theorem GP.nil : GP [] := ⟨fun r hr => absurd hr (by simp), by simp⟩
theorem ofD_ok (zs : List Int) : GP (ofD zs) ∧ ∀ v, v ∈ runs (ofD zs) ↔ v ∈ zs ∧ mayN v = true := by
  obtain ⟨g, m⟩ := addL_all zs [] GP.nil
  refine ⟨g, fun v => ?_⟩
  unfold ofD
  rw [m v]
  simp [runs]
theorem ofD_len (zs : List Int) : (ofD zs).length ≤ zs.length := by
  have : ∀ (zs : List Int) (l : List Rg), (zs.foldl addL l).length ≤ l.length + zs.length := fun zs => by
    induction zs with
    | nil => intro l; simp
    | cons z zs ih =>
      intro l
      have a := ih (addL l z)
      have b := addL_len (l := l) (n := z)
      rw [List.foldl_cons, List.length_cons]
      omega
  have := this zs []
  simpa [ofD] using this
theorem ofD_take {Z : List Int} {k : Nat} (h : k < Z.length) : ofD (Z.take (k + 1)) = addL (ofD (Z.take k)) (iA Z k) := by
  unfold ofD
  rw [take_succ' Z h, List.foldl_append]
  show addL _ Z[k] = _
  congr 1
  simp [iA, List.getD, h]
theorem lent_len (Z : List Int) : (lentL Z).length = Z.length + 2 := by simp [lentL]
theorem lent_iL {Z : List Int} {n : Nat} (h : Z.length = n) : iL (n + 2) (inG (lentL Z)) = lentL Z := by
  rw [← h, ← lent_len]
  exact iL_inG _
theorem lent_head {Z : List Int} {n : Nat} (h : Z.length = n) : iL n (fun i => inG (lentL Z) (0 + i)) = Z := by
  apply List.ext_getElem (by simp [iL, h])
  intro i h1 h2
  simp only [iL, List.getElem_map, List.getElem_range]
  show iA (lentL Z) (0 + i) = Z[i]
  unfold iA lentL
  rw [Nat.zero_add, List.getD_eq_getElem?_getD, List.getElem?_append_left h2, List.getElem?_eq_getElem h2]
  rfl
theorem kept_ok {Z : List Int} {n : Nat} (h : Z.length = n) : keptB n (n + 2) n (inG (lentL Z)) (inG Z) = true := by
  have e1 := lent_iL h
  have e2 : iL n (inG Z) = Z := by rw [← h]; exact iL_inG Z
  unfold keptB
  rw [e1, e2]
  subst h
  unfold lentL iA
  simp [List.getD]
structure LOn (Z : List Int) where
  i : Int
  k : Nat
  l : List Rg
  hk : i = (k : Int)
  h1 : k ≤ Z.length
  h2 : l = ofD (Z.take k)
/-- The numbers from a place on are added. -/
structure LSo (Z : List Int) (v : Int) where
  i : Int
  k : Nat
  l : List Rg
  b : Bool
  hk : i = (k : Int) - 1
  h1 : k ≤ Z.length
  gp : GP l
  hm : ∀ u, u ∈ runs l ↔ u ∈ Z.drop k ∧ mayN u = true
  hl : l.length ≤ Z.length - k
  hb : b = decide (v ∈ Z.drop k)
theorem so_next {Z : List Int} {l : List Rg} {k : Nat} (h0 : 0 < k) (h1 : k ≤ Z.length) (gp : GP l) (hm : ∀ u, u ∈ runs l ↔ u ∈ Z.drop k ∧ mayN u = true) :
    GP (addL l (iA Z (k - 1))) ∧ (∀ u, u ∈ runs (addL l (iA Z (k - 1))) ↔ u ∈ Z.drop (k - 1) ∧ mayN u = true) ∧ ∀ v, v ∈ Z.drop (k - 1) ↔ v = iA Z (k - 1) ∨ v ∈ Z.drop k := by
  have hk : k - 1 < Z.length := by omega
  have ed : Z.drop (k - 1) = iA Z (k - 1) :: Z.drop k := by
    rw [List.drop_eq_getElem_cons hk, show k - 1 + 1 = k by omega]
    congr 1
    simp [iA, List.getD, hk]
  have e : ∀ v, v ∈ Z.drop (k - 1) ↔ v = iA Z (k - 1) ∨ v ∈ Z.drop k := fun v => by rw [ed, List.mem_cons]
  obtain ⟨g, m⟩ := addL_ok (n := iA Z (k - 1)) gp
  refine ⟨g, fun u => ?_, e⟩
  rw [m u, hm u, e u]
  constructor
  · rintro (⟨a, b⟩ | ⟨rfl, b⟩)
    · exact ⟨Or.inr a, b⟩
    · exact ⟨Or.inl rfl, b⟩
  · rintro ⟨rfl | a, b⟩
    · exact Or.inr ⟨rfl, b⟩
    · exact Or.inl ⟨a, b⟩
def inPre3 (ty one n : Nat) (get : Nat → List CV) : Prop := ty = 3 ∧ one = 1 ∧ InAt n get
def sOfD : SpecF
  | [.c (.row 0)], [.elems ty one n get] => some (inPre ty one n get, .c (.row 1), [.dead, .row 114 2 (ofD (iL n get)).length (rgG (ofD (iL n get)))])
  | _, _ => none

set_option maxRecDepth 100000 in
set_option maxHeartbeats 8000000 in
theorem ofDP : Fn Try.prog 23 [] [(3, 1)] sOfD := by
  have hC : CtsOk Try.prog [(32, appFn [] [(114, 2)] sAddD)] := CtsOk.cons (Fn.ct addDP) <| CtsOk.nil _
  refine Fn.of (E := tbH) [] 0 [] tbH_ok hC (by kernel_rfl) Try.func23 rfl rfl rfl (by kernel_rfl) (by kernel_rfl) 1 114 2 ?_ ?_
  · intro args h pre r h' hs
    unfold sOfD at hs
    split at hs
    · cases hs; exact ⟨rfl, rfl, Nat.le_of_ble_eq_true rfl⟩
    · cases hs
  · intro args h pre r h' hs hp
    unfold sOfD at hs
    split at hs
    rotate_left
    · cases hs
    rename_i ty one n get
    cases hs
    obtain ⟨rfl, rfl, hst, hm⟩ := hp
    refine ⟨[.elems 3 1 n (inG (iL n get))], hst.same, ?_⟩
    have hZ : (iL n get).length = n := iL_len
    generalize iL n get = Z at hZ ⊢
    have eZ : iL n (inG Z) = Z := by rw [← hZ]; exact iL_inG Z
    unfold sAddD
    generalize hg0 : (List.length : List Rg → Nat) = g0
    generalize hL : lft Try.prog _ = L
    try unfold rgG
    try unfold inG
    generalize ho0 : @rA = zo0, ho1 : @rB = zo1, ho2 : @rgL = zo2, ho3 : @iL = zo3, ho4 : @iA = zo4, ho5 : @inPre = zo5, ho6 : @goodPreD = zo6, ho7 : @addL = zo7, ho8 : @ofD = zo8
    generalize hA : Arith.std = A
    cbv
    subst hA hg0 hL ho0 ho1 ho2 ho3 ho4 ho5 ho6 ho7 ho8
    refine Runs.nilTmp 3 114 2 (rgG []) rfl ?_
    show Runs Try.prog 1 (.loop _) _ _
    refine loop_ruleR (N := env (lft Try.prog 1) 0 .std tbH [(32, appFn [] [(114, 2)] sAddD)] []) rfl tbH_ok hC (fun c st K _ h => h) (by kernel_rfl) [] (X := LOn Z)
      (S := fun x => ⟨[.c (.row 0), .any, .any, .c (.row 1), .c (.int .i64 x.i)] ++ List.replicate 13 .any, [.elems 3 1 n (inG Z), .row 114 2 x.l.length (rgG x.l)]⟩) (μ := fun x => Z.length - x.k) ⟨0, 0, [], rfl, Nat.zero_le _, rfl⟩ (by kernel_rfl) [0, 1] ?_ ?_
    · refine ⟨rfl, by decide, ?_, ?_⟩ <;> repeat' (first | exact trivial | exact rfl | apply And.intro | exact (fun _ _ _ _ => Cell.le_refl _) | (intro i hi; rfl) | (intro i hi; exact absurd hi (Nat.not_lt_zero _)))
    rintro ⟨i, k, l, hk, h1, h2⟩
    replace hk : i = @Nat.cast Int instNatCastInt k := hk
    subst hk
    unfold sAddD
    generalize hg0 : (List.length : List Rg → Nat) = g0
    generalize hL : lft Try.prog _ = L
    try dsimp only
    try unfold rgG
    try unfold inG
    generalize ho0 : @rA = zo0, ho1 : @rB = zo1, ho2 : @rgL = zo2, ho3 : @iL = zo3, ho4 : @iA = zo4, ho5 : @inPre = zo5, ho6 : @goodPreD = zo6, ho7 : @addL = zo7, ho8 : @ofD = zo8
    generalize hA : Arith.std = A
    cbv
    subst hA hg0 hL ho0 ho1 ho2 ho3 ho4 ho5 ho6 ho7 ho8
    replace h2 : l = ofD (Z.take k) := h2
    refine Ife.mk (fun hlt => ?_) (fun hlt => ?_)
    · replace hlt : (k : Int) < @Nat.cast Int instNatCastInt n := of_decide_eq_true (p := (k : Int) < (n : Int)) hlt
      have ok := ofD_ok (Z.take k)
      have ln := ofD_len (Z.take k)
      rw [← h2] at ok ln
      have hlk : l.length ≤ k := Nat.le_trans ln (by rw [List.length_take]; omega)
      have el : rgL l.length (rgG l) = l := rgL_rgG l
      refine Need.mk (show 0 ≤ (k : Int) ∧ (k : Int) < (n : Int) by omega) fun _ => Need.mk (show k < n by omega) fun _ => ?_
      refine Need.mk ⟨⟨rfl, rfl, rgAt_rgG _ _, by show l.length ≤ 1000000; omega⟩, by rw [el]; exact ok.1.good⟩ fun _ => ?_
      rw [el]
      refine Need.mk (by show fitStd .i64 ((k : Int) + 1); unfold fitStd; omega) fun _ => ?_
      refine ⟨⟨(k : Int) + 1, k + 1, addL l (iA Z k), by omega, by omega, by rw [ofD_take (by omega), ← h2]⟩, [0, 3], (by show Z.length - (k + 1) < Z.length - k; omega), ?_⟩
      refine ⟨rfl, by decide, ?_, ?_⟩ <;> repeat' (first | exact trivial | exact rfl | apply And.intro | exact (fun _ _ _ _ => Cell.le_refl _) | (intro i hi; rfl) | (intro i hi; exact absurd hi (Nat.not_lt_zero _)))
    · replace hlt : ¬ (k : Int) < @Nat.cast Int instNatCastInt n := of_decide_eq_false (p := (k : Int) < (n : Int)) hlt
      rw [List.take_of_length_le (by omega)] at h2
      rw [← h2]
      exact ⟨[0, 1], ⟨rfl, rfl, (by show List.Nodup [1]; decide), rfl, by repeat' (first | exact trivial | exact rfl | apply And.intro | exact (fun _ _ _ _ => Cell.le_refl _) | (intro i hi; rfl) | (intro i hi; exact absurd hi (Nat.not_lt_zero _)))⟩⟩

def sSpanOf : SpecF
  | [.c (.row 0), .c (.int .i64 v)], [.elems ty one n get] => some (inPre3 ty one n get, .c .tt, [.dead])
  | _, _ => none

set_option maxRecDepth 100000 in
set_option maxHeartbeats 32000000 in
theorem spanOfP : Fn Try.prog 3 [] [(3, 1)] sSpanOf := by
  have hC : CtsOk Try.prog [(17, appFn [] [] sFirst23), (18, appFn [] [(3, 1)] sLend), (19, appFn [] [(3, 1)] sOf), (20, appKept), (21, appFn [] [(111, 2)] sGood), (23, appFn [] [(3, 1)] sOfD), (22, appFn [] [(111, 2), (114, 2)] sEqR), (24, appFn [] [(111, 2)] sAdd), (25, appFn [] [(111, 2)] sHas), (26, appFn [] [(111, 2)] sDoc), (27, appFn [] [(111, 2)] sCount)] := CtsOk.cons (Fn.ct first23P) <| CtsOk.cons (Fn.ct lendP) <| CtsOk.cons (Fn.ct ofP) <| CtsOk.cons (keptCt) <| CtsOk.cons (Fn.ct goodP) <| CtsOk.cons (Fn.ct ofDP) <| CtsOk.cons (Fn.ct eqRP) <| CtsOk.cons (Fn.ct addP) <| CtsOk.cons (Fn.ct hasP) <| CtsOk.cons (Fn.ct docP) <| CtsOk.cons (Fn.ct countP) <| CtsOk.nil _
  refine Fn.of (E := tbH) [] 0 [(16, [(0, true), (1, true), (2, true), (3, true), (4, true), (6, true), (7, true), (8, true), (9, true), (10, true), (5, false), (11, true), (12, true), (13, true), (14, true), (15, true), (16, true), (17, true), (18, true)])] tbH_ok hC (by kernel_rfl) Try.func3 rfl rfl rfl (by kernel_rfl) (by kernel_rfl) 1 5 1 ?_ ?_
  · intro args h pre r h' hs
    unfold sSpanOf at hs
    split at hs
    · cases hs; exact ⟨rfl, rfl, Nat.le_of_ble_eq_true rfl⟩
    · cases hs
  · intro args h pre r h' hs hp
    unfold sSpanOf at hs
    split at hs
    rotate_left
    · cases hs
    rename_i v ty one n get
    cases hs
    obtain ⟨rfl, rfl, hst⟩ := hp
    refine ⟨[.elems 3 1 n (inG (iL n get))], hst.same, ?_⟩
    have hZ : (iL n get).length = n := iL_len
    generalize iL n get = Z at hZ ⊢
    have eZ : iL n (inG Z) = Z := by rw [← hZ]; exact iL_inG Z
    unfold sFirst23 sLend sOf sGood sOfD sEqR sAdd sHas sDoc sCount
    generalize hg0 : (List.length : List Rg → Nat) = g0
    generalize hg1 : (List.length : List Int → Nat) = g1
    generalize hL : lft Try.prog _ = L
    try unfold appKept
    try unfold rgG
    try unfold inG
    generalize ho0 : @rA = zo0, ho1 : @rB = zo1, ho2 : @rgL = zo2, ho3 : @good = zo3, ho4 : @mayN = zo4, ho5 : @ofL = zo5, ho6 : @runs = zo6, ho7 : @iL = zo7, ho8 : @srt = zo8, ho9 : @iA = zo9, ho10 : @countG = zo10, ho11 : @rgPre = zo11, ho12 : @inPre = zo12, ho13 : @hasL = zo13, ho14 : @rgPreD = zo14, ho15 : @addL = zo15, ho16 : @addG = zo16, ho17 : @ofD = zo17, ho18 : @inPre3 = zo18, ho19 : @keptPre = zo19, ho20 : @keptB = zo20, ho21 : @lentL = zo21
    generalize hA : Arith.std = A
    cbv
    subst hA hg0 hg1 hL ho0 ho1 ho2 ho3 ho4 ho5 ho6 ho7 ho8 ho9 ho10 ho11 ho12 ho13 ho14 ho15 ho16 ho17 ho18 ho19 ho20 ho21
    refine Need.mk trivial fun _ => ?_
    refine Ife.mk (fun _ => Need.mk trivial fun _ => by exact ⟨[0], ⟨rfl, by repeat' (first | exact trivial | exact rfl | apply And.intro), by decide, rfl, by repeat' (first | exact trivial | exact rfl | apply And.intro)⟩⟩) (fun h1 => ?_)
    have h1 : ¬ (100 : Int) < (n : Int) := of_decide_eq_false (p := (100 : Int) < (n : Int)) h1
    have hn100 : n ≤ 100 := by omega
    have pZ : inPre 3 1 n (inG Z) := ⟨rfl, rfl, inAt_inG _ _, by omega⟩
    refine Need.mk pZ fun _ => ?_
    rw [eZ]
    refine Need.mk ⟨rfl, rfl, fun i hi => ⟨_, rfl⟩, by omega⟩ fun _ => ?_
    rw [lent_head hZ]
    have hinv : Inv (ofL (srt Z)) (srt Z) := ofL_inv (srt_up Z)
    have hmem : ∀ u, u ∈ runs (ofL (srt Z)) ↔ u ∈ Z ∧ mayN u = true := fun u => by rw [hinv.mem u, (srt_perm Z).mem_iff]
    have hlen : (runs (ofL (srt Z))).length ≤ n := by have := hinv.len; rw [srt_len] at this; omega
    have hok := hinv.ok
    have hg : good (ofL (srt Z)) = true := hinv.good
    clear hinv
    generalize ofL (srt Z) = X at hmem hlen hok hg ⊢
    have hXl : X.length ≤ n := Nat.le_trans (len_le_runs fun r hr => (hok r hr).2.1) hlen
    have eX : rgL X.length (rgG X) = X := rgL_rgG X
    have eC : countG X = ((runs X).length : Int) := by unfold countG; rw [if_pos hg]; exact count_len fun r hr => (hok r hr).2.1
    have gX := good_GP hg
    obtain ⟨gO, mO⟩ := ofD_ok Z
    have hO : ofD Z = X := GP.ext gO gX fun u => by rw [mO u, hmem u]
    obtain ⟨nX, hnX⟩ : ∃ m, X.length = m := ⟨_, rfl⟩
    rw [hnX] at eX hXl
    have pX : rgPre 111 2 nX (rgG X) := ⟨rfl, rfl, rgAt_rgG _ _, by omega⟩
    have pXD : rgPreD 114 2 nX (rgG X) := ⟨rfl, rfl, rgAt_rgG _ _, by omega⟩
    refine Need.mk ⟨inAt_inG _ _, rfl, inAt_inG _ _, by omega, by omega⟩ fun _ => ?_
    refine IfeS.no (by show (!keptB n (n + 2) n (inG (lentL Z)) (inG Z)) = false; rw [kept_ok hZ]; rfl) ?_
    rw [hnX]
    refine Need.mk pX fun _ => ?_
    rw [eX]
    refine IfeS.no (by show (!good X) = false; rw [hg]; rfl) ?_
    refine Need.mk pZ fun _ => ?_
    rw [hO, hnX]
    refine Need.mk ⟨pX, pXD⟩ fun _ => ?_
    refine IfeS.no (by show (!decide (X = rgL nX (rgG X))) = false; rw [eX]; simp) ?_
    refine Need.mk (by show fitStd .i64 ((n : Int) - 1); unfold fitStd; omega) fun _ => ?_
    refine Runs.nilTmp 7 111 2 (rgG []) rfl ?_
    show Runs Try.prog 1 (.loop _) _ _
    refine loop_ruleR (N := env (lft Try.prog 1) 0 .std tbH [(17, appFn [] [] sFirst23), (18, appFn [] [(3, 1)] sLend), (19, appFn [] [(3, 1)] sOf), (20, appKept), (21, appFn [] [(111, 2)] sGood), (23, appFn [] [(3, 1)] sOfD), (22, appFn [] [(111, 2), (114, 2)] sEqR), (24, appFn [] [(111, 2)] sAdd), (25, appFn [] [(111, 2)] sHas), (26, appFn [] [(111, 2)] sDoc), (27, appFn [] [(111, 2)] sCount)] [(16, [(0, true), (1, true), (2, true), (3, true), (4, true), (6, true), (7, true), (8, true), (9, true), (10, true), (5, false), (11, true), (12, true), (13, true), (14, true), (15, true), (16, true), (17, true), (18, true)])]) rfl tbH_ok hC (fun c st K _ h => h) (by kernel_rfl) [] (X := LSo Z v)
      (S := fun x => ⟨[.c (.row 0), .c (.int .i64 v), .any, .any, .any, .any, .c (.row 1), .c (.row 2), .c (.bool x.b), .c (.int .i64 x.i)] ++ List.replicate 93 .any, [.elems 3 1 n (inG Z), .row 111 2 nX (rgG X), .row 111 2 x.l.length (rgG x.l)]⟩) (μ := fun x => x.k) ⟨(n : Int) - 1, n, [], false, rfl, by omega, GP.nil, (fun u => by rw [List.drop_eq_nil_of_le (by omega)]; simp [runs]), by simp, by rw [List.drop_eq_nil_of_le (by omega)]; simp⟩ (by kernel_rfl) [0, 4, 10] ?_ ?_
    · refine ⟨rfl, by decide, ?_, ?_⟩ <;> repeat' (first | exact trivial | exact rfl | apply And.intro | exact (fun _ _ _ _ => Cell.le_refl _) | (intro i hi; rfl) | (intro i hi; exact absurd hi (Nat.not_lt_zero _)))
    rintro ⟨i, k, l, b, hk, h2, gp, hm, hl, hb⟩
    have hk2 : (i + 1).toNat = k := by rw [hk, Int.sub_add_cancel]; exact Int.toNat_natCast k
    have hge : -1 ≤ i := by rw [hk]; have : 0 ≤ ((k : Nat) : Int) := Int.natCast_nonneg k; show -1 ≤ ((k : Nat) : Int) - 1; omega
    unfold sFirst23 sLend sOf sGood sOfD sEqR sAdd sHas sDoc sCount
    generalize hg0 : (List.length : List Rg → Nat) = g0
    generalize hg1 : (List.length : List Int → Nat) = g1
    generalize hL : lft Try.prog _ = L
    try dsimp only
    try unfold appKept
    try unfold rgG
    try unfold inG
    generalize ho0 : @rA = zo0, ho1 : @rB = zo1, ho2 : @rgL = zo2, ho3 : @good = zo3, ho4 : @mayN = zo4, ho5 : @ofL = zo5, ho6 : @runs = zo6, ho7 : @iL = zo7, ho8 : @srt = zo8, ho9 : @iA = zo9, ho10 : @countG = zo10, ho11 : @rgPre = zo11, ho12 : @inPre = zo12, ho13 : @hasL = zo13, ho14 : @rgPreD = zo14, ho15 : @addL = zo15, ho16 : @addG = zo16, ho17 : @ofD = zo17, ho18 : @inPre3 = zo18, ho19 : @keptPre = zo19, ho20 : @keptB = zo20, ho21 : @lentL = zo21
    generalize hA : Arith.std = A
    cbv
    subst hA hg0 hg1 hL ho0 ho1 ho2 ho3 ho4 ho5 ho6 ho7 ho8 ho9 ho10 ho11 ho12 ho13 ho14 ho15 ho16 ho17 ho18 ho19 ho20 ho21
    replace hl : l.length ≤ Z.length - k := hl
    have el : rgL l.length (rgG l) = l := rgL_rgG l
    have pl : rgPre 111 2 l.length (rgG l) := ⟨rfl, rfl, rgAt_rgG _ _, by show l.length ≤ 1000000; omega⟩
    refine Ife.mk (fun hlt => ?_) (fun hlt => ?_)
    · replace hlt : 0 ≤ i := of_decide_eq_true (p := 0 ≤ i) hlt
      have h0 : 0 < k := by omega
      obtain ⟨n1, n2, n3⟩ := so_next h0 h2 gp hm
      have e1 : i.toNat = k - 1 := by omega
      have ix : 0 ≤ i ∧ i < (n : Int) := by omega
      have hi8 : ((k - 1 : Nat) : Int) = i := by omega
      have hi9 : i - 1 = ((k - 1 : Nat) : Int) - 1 := by rw [hi8]
      have ix2 : i.toNat < n := by omega
      generalize hzz : iA Z _ = z
      replace hzz : iA Z i.toNat = z := hzz
      rw [e1] at hzz
      have hz : z ∈ Z := by rw [← hzz]; exact iA_mem (by omega)
      have hh : hasL X z = mayN z := by
        rw [Bool.eq_iff_iff, hasL_iff, hmem]
        exact ⟨fun h => h.2, fun h => ⟨hz, h⟩⟩
      rw [hzz] at n1 n2 n3
      have eg : addG l z = addL l z := by unfold addG; rw [if_pos gp.good]
      have lA := addL_len (l := l) (n := z)
      refine Need.mk ix fun _ => Need.mk ix2 fun _ => Need.mk pl fun _ => ?_
      rw [el, eg]
      refine Ife.mk (fun hbt => ?_) (fun hbf => ?_)
      · have hb' : true = decide (v ∈ Z.drop (k - 1)) := by
          rw [eq_comm, decide_eq_true_iff, n3 v]
          refine Or.inr ?_
          have hbt : b = true := hbt
          rw [hbt] at hb
          exact of_decide_eq_true hb.symm
        refine Need.mk ix fun _ => Need.mk ix2 fun _ => Need.mk ix fun _ => Need.mk ix2 fun _ => Need.mk pX fun _ => ?_
        rw [eX, hh]
        refine Ife.mk (fun h3 => ?_) (fun h3 => ?_)
        · have h3 : 0 ≤ z := of_decide_eq_true (p := 0 ≤ z) h3
          refine Need.mk ix fun _ => Need.mk ix2 fun _ => ?_
          refine IfeS.no (by show (!(mayN (z) == decide (z ≤ 72057594037927935))) = false; unfold mayN; rw [decide_eq_true h3]; simp) ?_
          refine Need.mk (by show fitStd .i64 (i - 1); unfold fitStd; omega) fun _ => ?_
          refine ⟨⟨i - 1, k - 1, addL l z, _, hi9, by omega, n1, n2, by omega, hb'⟩, [0, 1, 4], (by show k - 1 < k; omega), ?_⟩
          refine ⟨rfl, by decide, ?_, ?_⟩ <;> repeat' (first | exact trivial | exact rfl | apply And.intro | exact (fun _ _ _ _ => Cell.le_refl _) | (intro i hi; rfl) | (intro i hi; exact absurd hi (Nat.not_lt_zero _)))
        · have h3 : ¬ 0 ≤ z := of_decide_eq_false (p := 0 ≤ z) h3
          refine IfeS.no (by show (!(!mayN z)) = false; unfold mayN; rw [decide_eq_false h3]; rfl) ?_
          refine Need.mk (by show fitStd .i64 (i - 1); unfold fitStd; omega) fun _ => ?_
          refine ⟨⟨i - 1, k - 1, addL l z, _, hi9, by omega, n1, n2, by omega, hb'⟩, [0, 1, 4], (by show k - 1 < k; omega), ?_⟩
          refine ⟨rfl, by decide, ?_, ?_⟩ <;> repeat' (first | exact trivial | exact rfl | apply And.intro | exact (fun _ _ _ _ => Cell.le_refl _) | (intro i hi; rfl) | (intro i hi; exact absurd hi (Nat.not_lt_zero _)))
      · have hb' : decide (z = v) = decide (v ∈ Z.drop (k - 1)) := by
          have hbf : b = false := hbf
          rw [hbf] at hb
          have hn := of_decide_eq_false hb.symm
          rw [Bool.eq_iff_iff, decide_eq_true_iff, decide_eq_true_iff, n3 v]
          exact ⟨fun h => Or.inl h.symm, fun h => h.elim (fun h => h.symm) fun h => absurd h hn⟩
        refine Need.mk ix fun _ => Need.mk ix2 fun _ => ?_
        refine Need.mk ix fun _ => Need.mk ix2 fun _ => Need.mk ix fun _ => Need.mk ix2 fun _ => Need.mk pX fun _ => ?_
        rw [eX, hh]
        refine Ife.mk (fun h3 => ?_) (fun h3 => ?_)
        · have h3 : 0 ≤ z := of_decide_eq_true (p := 0 ≤ z) h3
          refine Need.mk ix fun _ => Need.mk ix2 fun _ => ?_
          refine IfeS.no (by show (!(mayN (z) == decide (z ≤ 72057594037927935))) = false; unfold mayN; rw [decide_eq_true h3]; simp) ?_
          refine Need.mk (by show fitStd .i64 (i - 1); unfold fitStd; omega) fun _ => ?_
          refine ⟨⟨i - 1, k - 1, addL l z, _, hi9, by omega, n1, n2, by omega, hb'⟩, [0, 1, 4], (by show k - 1 < k; omega), ?_⟩
          refine ⟨rfl, by decide, ?_, ?_⟩ <;> repeat' (first | exact trivial | exact rfl | apply And.intro | exact (fun _ _ _ _ => Cell.le_refl _) | (intro i hi; rfl) | (intro i hi; exact absurd hi (Nat.not_lt_zero _)))
        · have h3 : ¬ 0 ≤ z := of_decide_eq_false (p := 0 ≤ z) h3
          refine IfeS.no (by show (!(!mayN z)) = false; unfold mayN; rw [decide_eq_false h3]; rfl) ?_
          refine Need.mk (by show fitStd .i64 (i - 1); unfold fitStd; omega) fun _ => ?_
          refine ⟨⟨i - 1, k - 1, addL l z, _, hi9, by omega, n1, n2, by omega, hb'⟩, [0, 1, 4], (by show k - 1 < k; omega), ?_⟩
          refine ⟨rfl, by decide, ?_, ?_⟩ <;> repeat' (first | exact trivial | exact rfl | apply And.intro | exact (fun _ _ _ _ => Cell.le_refl _) | (intro i hi; rfl) | (intro i hi; exact absurd hi (Nat.not_lt_zero _)))
    · replace hlt : ¬ 0 ≤ i := of_decide_eq_false (p := 0 ≤ i) hlt
      have hk0 : k = 0 := by omega
      subst hk0
      rw [List.drop_zero] at hm hb
      have hlX : l = X := GP.ext gp gX fun u => by rw [hm u, hmem u]
      subst hlX
      have hml : l.length = nX := hnX
      refine Need.mk pX fun _ => ?_
      rw [eX, hnX]
      have hv : hasL l v = true ↔ v ∈ Z ∧ mayN v = true := by rw [hasL_iff, hmem]
      have hcn : countG l ≤ (n : Int) := by rw [eC]; exact Int.ofNat_le.mpr hlen
      refine Need.mk ⟨pX, pXD⟩ fun _ => IfeS.yes (decide_eq_true rfl) ?_
      refine Need.mk pX fun _ => ?_
      refine Ife.mk (fun hbt => ?_) (fun hbf => ?_)
      · have hbt : b = true := hbt
        rw [hbt] at hb
        have hvZ : v ∈ Z := of_decide_eq_true hb.symm
        refine Ife.mk (fun h3 => ?_) (fun h3 => ?_)
        · have h3 : 0 ≤ v := of_decide_eq_true (p := 0 ≤ v) h3
          have e : hasL l v = decide (v ≤ 72057594037927935) := by
            rw [Bool.eq_iff_iff, hv, decide_eq_true_iff, mayN_iff]
            exact ⟨fun h => h.2.2, fun h => ⟨hvZ, h3, h⟩⟩
          refine IfeS.yes (by show (hasL l v == decide (v ≤ 72057594037927935)) = true; rw [e]; simp) ?_
          refine Need.mk pX fun _ => ?_
          exact ⟨[0], ⟨rfl, by repeat' (first | exact trivial | exact (decide_eq_true hcn) | exact (congrArg CV.bool (decide_eq_true hcn)) | exact rfl | apply And.intro | (intro i hi; rfl) | (intro i hi; exact absurd hi (Nat.not_lt_zero _))), by decide, rfl, by repeat' (first | exact trivial | exact (decide_eq_true hcn) | exact (congrArg CV.bool (decide_eq_true hcn)) | exact rfl | apply And.intro | (intro i hi; rfl) | (intro i hi; exact absurd hi (Nat.not_lt_zero _)))⟩⟩
        · have h3 : ¬ 0 ≤ v := of_decide_eq_false (p := 0 ≤ v) h3
          have e : hasL l v = false := by
            rw [Bool.eq_false_iff]
            intro h
            have := mayN_iff.1 (hv.1 h).2
            omega
          refine IfeS.yes (by show (!hasL l v) = true; rw [e]; rfl) ?_
          refine Need.mk pX fun _ => ?_
          exact ⟨[0], ⟨rfl, by repeat' (first | exact trivial | exact (decide_eq_true hcn) | exact (congrArg CV.bool (decide_eq_true hcn)) | exact rfl | apply And.intro | (intro i hi; rfl) | (intro i hi; exact absurd hi (Nat.not_lt_zero _))), by decide, rfl, by repeat' (first | exact trivial | exact (decide_eq_true hcn) | exact (congrArg CV.bool (decide_eq_true hcn)) | exact rfl | apply And.intro | (intro i hi; rfl) | (intro i hi; exact absurd hi (Nat.not_lt_zero _)))⟩⟩
      · have hbf : b = false := hbf
        rw [hbf] at hb
        have hvZ : ¬ v ∈ Z := of_decide_eq_false hb.symm
        have e : hasL l v = false := by
          rw [Bool.eq_false_iff]
          intro h
          exact hvZ (hv.1 h).1
        refine IfeS.yes (by show (!hasL l v) = true; rw [e]; rfl) ?_
        refine Need.mk pX fun _ => ?_
        exact ⟨[0], ⟨rfl, by repeat' (first | exact trivial | exact (decide_eq_true hcn) | exact (congrArg CV.bool (decide_eq_true hcn)) | exact rfl | apply And.intro | (intro i hi; rfl) | (intro i hi; exact absurd hi (Nat.not_lt_zero _))), by decide, rfl, by repeat' (first | exact trivial | exact (decide_eq_true hcn) | exact (congrArg CV.bool (decide_eq_true hcn)) | exact rfl | apply And.intro | (intro i hi; rfl) | (intro i hi; exact absurd hi (Nat.not_lt_zero _)))⟩⟩

end Go.Proofs.Ytcgoaicifjndpaa.Vx
namespace Go.Proofs.Ytcgoaicifjndpaa
open Go.RowKit
set_option linter.unusedVariables false
theorem spanOfWalk (w : World) (p : Option Addr) (cap : Nat) (ls : List Int) (hs : SlIn w p 1 cap (ls.map fun n => [.int .i64 n])) (v : Int) (_hv : -9223372036854775808 ≤ v ∧ v ≤ 9223372036854775807) :
    Calls Try.prog 3 #[.slice p ls.length cap, .int .i64 v] w fun e w' => e = .returned (.bool true) ∧ Below w.heap.size w w' := by
  obtain ⟨q, hq, g⟩ := inz_good hs
  rw [← hq]
  refine Calls.mono (Vx.spanOfP.run [.c (.row 0), .c (.int .i64 v)] [.elems 3 1 ls.length (Vx.inG ls)] _ _ _ rfl ⟨rfl, rfl, Vx.inAt_inG _ _⟩ [q] w _ (Vx.Rel.addV (Vx.Rel.refl w) 3 g) ⟨_, _, rfl, (by obtain ⟨a', cap', e, _⟩ := g.sl; simp [Vx.SV.is, Vx.CV.den, e, Vx.one] : Vx.SV.is [q] (.c (.row 0)) q.v), _, _, rfl, rfl, rfl⟩) fun e W' he => ?_
  obtain ⟨u, ρ', rfl, hu, hr⟩ := he
  obtain rfl : .bool true = u := Option.some.inj hu
  exact ⟨rfl, Vx.Rel.toBelow hr⟩
end Go.Proofs.Ytcgoaicifjndpaa
end
