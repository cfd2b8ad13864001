/- Contracts of methods on a struct that holds a slice of bytes and a bool (a writer). -/
import Derived.Test.YtcgoaicifjndpaaM11
import Derived.Test.YtcgoaicifjndpaaVxLive
section
namespace Go.Proofs.Ytcgoaicifjndpaa.Vx
open Go.RowKit
set_option linter.unusedVariables false
set_option linter.unusedSimpArgs false

abbrev SpecW := List UInt8 → Bool → List SV → Option (Prop × SV × List UInt8 × Bool)

/-- A writer at g: what it has written, and whether it is bad. -/
structure IsW (T e : TypeId) (W : World) (g : Nat) (v : Value) (l : List UInt8) (b : Bool) : Prop where
  blk : W.heap[g]? = some (.cells #[v, .bool b] T (0, 0))
  row : BytesAt W e v l
  ne : v.ownBlock ≠ some g

structure MethW (P : Program) (f : FuncId) (T e : TypeId) (spec : SpecW) : Prop where
  fn : callable P f = true
  run : ∀ l b args pre res l' b', spec l b args = some (pre, res, l', b') → pre → ∀ us, IsS [] args us → ∀ W g v, IsW T e W g v l b →
    Calls P f (.pointer (some ⟨g, 0, none⟩) :: us).toArray W fun en W' => ∃ u v', en = .returned u ∧ res.is [] u ∧ IsW T e W' g v' l' b' ∧ Only (g :: v.ownBlock.toList) W W' ∧ (∀ c, v'.ownBlock = some c → v.ownBlock = some c ∨ W.heap.size ≤ c)

def boolOf : CV → Option Bool
  | .tt => some true
  | .ff => some false
  | .bool b => some b
  | _ => none

def appW (T e : Nat) (spec : SpecW) : App := fun args h =>
  match args with
  | .c (.ptr k 0) :: rest => match h[k]? with
    | some (.cells t [.row j, x]) => match h[j]?, boolOf x with
      | some (.bytes e' l), some b => match Nat.beq t T && Nat.beq e e' && pfa rest with
        | true => match spec l b rest with
          | some (pre, res, l', b') => some ⟨pre, res, (h.set k (.cells T [.row h.length, .bool b'])).set j .dead ++ [.bytes e l'], [k, j]⟩
          | none => none
        | false => none
      | _, _ => none
    | _ => none
  | _ => none

theorem boolOf_den {x : CV} {b : Bool} (h : boolOf x = some b) (ρ : List Pl) : x.den ρ = some (.bool b) := by
  cases x <;> simp only [boolOf] at h <;> try (cases h; done)
  all_goals (cases h; rfl)

theorem MethW.ct {P : Program} {f : FuncId} {T e : TypeId} {spec : SpecW} (m : MethW P f T e spec) : CtOk P f (appW T e spec) := by
  have hsp : ∀ args hp r, appW T e spec args hp = some r → ∃ k j rest x b l l' b', args = .c (.ptr k 0) :: rest ∧ hp[k]? = some (.cells T [.row j, x]) ∧ hp[j]? = some (.bytes e l) ∧ boolOf x = some b ∧ pfa rest = true ∧
      spec l b rest = some (r.pre, r.res, l', b') ∧ r.h = (hp.set k (.cells T [.row hp.length, .bool b'])).set j .dead ++ [.bytes e l'] ∧ r.ms = [k, j] := fun args hp r hr => by
    unfold appW at hr
    split at hr
    · rename_i k rest
      split at hr
      · rename_i t j x hk
        split at hr
        · rename_i e' l b hj hx
          split at hr
          · rename_i hb
            simp only [Bool.and_eq_true, Nat.beq_eq] at hb
            obtain ⟨⟨hb1, hb2⟩, hb3⟩ := hb
            subst hb1 hb2
            split at hr
            · rename_i pre res l' b' hs
              simp only [Option.some.injEq] at hr
              subst hr
              exact ⟨k, j, rest, x, b, l, l', b', rfl, hk, hj, hx, hb3, hs, rfl, rfl⟩
            · cases hr
          · cases hr
        · cases hr
      · cases hr
    · cases hr
  refine ⟨callable_spec m.fn, fun args hp r hr => ?_, fun args hp r hr hpre w0 G ρ W us rel hs => ?_⟩
  · obtain ⟨k, j, rest, x, b, l, l', b', rfl, hk, hj, _, _, _, h1, h2⟩ := hsp args hp r hr
    rw [h1, h2]
    refine ⟨by simp, fun i hi hne => ?_⟩
    simp at hne
    rw [List.getElem?_append_left (by simpa using hi), List.getElem?_set_ne (fun e => hne.2 e.symm), List.getElem?_set_ne (fun e => hne.1 e.symm)]
  · obtain ⟨k, j, rest, x, b, l, l', b', rfl, hk, hj, hx, hpa, hsp1, h1, h2⟩ := hsp args hp r hr
    obtain ⟨u, us', rfl, hu, hus⟩ := hs
    obtain ⟨p, hpk, rfl⟩ := den_ptr hu
    obtain ⟨vs, hv1, hv2⟩ := rel.ok k _ p hk hpk
    obtain ⟨q, hqj, hrow⟩ := rel.place hj
    have hjk : j ≠ k := fun e => by rw [e, hk] at hj; cases hj
    have hklt : k < hp.length := (List.getElem?_eq_some_iff.1 hk).1
    have hjlt : j < hp.length := (List.getElem?_eq_some_iff.1 hj).1
    have hqone : one q.v = true := hrow.1.one
    have hvs : vs = [q.v, .bool b] := by
      refine hv1.unique (IsL.cons ?_ (IsL.cons (boolOf_den hx ρ) (IsL.nil ρ)))
      simp [CV.den, hqj, hqone]
    subst hvs
    have hkf : fp ρ hp k = some p.b := by rw [fp_mk hk hpk]; rfl
    have hjf : fp ρ hp j = q.v.ownBlock := by rw [fp_mk hj hqj]; rfl
    have hW : IsW T e W p.b q.v l b := ⟨hv2, hrow.1, fun h => hjk (rel.dis j k p.b (by rw [hjf]; exact h) hkf)⟩
    refine Calls.mono (m.run l b rest _ _ l' b' hsp1 hpre us' (isS_pf hpa hus []) W p.b q.v hW) fun en W' he => ?_
    obtain ⟨u, v', rfl, hres, hW', ho, hown⟩ := he
    have hv'one : one v' = true := hW'.row.one
    refine ⟨u, [plB v'], rfl, by simpa using SV.is_app (SV.is_app hres ρ) [plB v'], ?_⟩
    rw [h1]
    have hget : ∀ i en, ((hp.set k (.cells T [.row hp.length, .bool b'])).set j .dead ++ [.bytes e l'])[i]? = some en →
        (i < hp.length ∧ i = j ∧ en = .dead) ∨ (i < hp.length ∧ i = k ∧ en = .cells T [.row hp.length, .bool b']) ∨ (i < hp.length ∧ i ≠ j ∧ i ≠ k ∧ hp[i]? = some en) ∨ (i = hp.length ∧ en = .bytes e l') := fun i en he => by
      rcases getElem?_snoc he with ⟨g1, g2⟩ | ⟨g1, rfl⟩
      · simp only [List.length_set] at g1
        by_cases hij : i = j
        · subst hij
          rw [List.getElem?_set_self (by simpa using g1)] at g2
          exact Or.inl ⟨g1, rfl, (Option.some.inj g2).symm⟩
        · rw [List.getElem?_set_ne (fun e => hij e.symm)] at g2
          by_cases hik : i = k
          · subst hik
            rw [List.getElem?_set_self g1] at g2
            exact Or.inr (Or.inl ⟨g1, rfl, (Option.some.inj g2).symm⟩)
          · rw [List.getElem?_set_ne (fun e => hik e.symm)] at g2
            exact Or.inr (Or.inr (Or.inl ⟨g1, hij, hik, g2⟩))
      · simp only [List.length_set] at g1
        exact Or.inr (Or.inr (Or.inr ⟨g1, rfl⟩))
    have hpl : ∀ i z, (ρ ++ [plB v'])[i]? = some z → (i < hp.length → ρ[i]? = some z) ∧ (i = hp.length → z = plB v') := fun i z hz => by
      rcases getElem?_snoc hz with ⟨g1, g2⟩ | ⟨g1, g2⟩
      · exact ⟨fun _ => g2, fun e => by rw [rel.len] at g1; omega⟩
      · exact ⟨fun h3 => by rw [rel.len] at g1; omega, fun _ => g2⟩
    have hmemG : ∀ c, c ∈ p.b :: q.v.ownBlock.toList → c = p.b ∨ q.v.ownBlock = some c := fun c hc => by
      rcases List.mem_cons.1 hc with h | h
      · exact Or.inl h
      · right; cases hq : q.v.ownBlock with
        | none => rw [hq] at h; simp at h
        | some d => rw [hq] at h; simp at h; rw [h]
    have hkeep : ∀ i en z c, i ≠ j → i ≠ k → hp[i]? = some en → ρ[i]? = some z → en.dep z = some c → W'.heap[c]? = W.heap[c]? := fun i en z c hij hik hi hz hc => by
      refine ho.block c (rel.dep_lt hi hz hc) fun hm => ?_
      have own : ∀ t, t ≠ i → fp ρ hp t = some c → False := fun t ht hf => by
        rcases dep_fp hc with h3 | h3
        · exact ht (rel.dis t i c hf (by rw [fp_mk hi hz]; exact h3))
        · exact (rel.ro hi hz h3 hc).2.1 t hf
      rcases hmemG c hm with rfl | h3
      · exact own k (fun e => hik e.symm) hkf
      · exact own j (fun e => hij e.symm) (by rw [hjf]; exact h3)
    have hfp : ∀ i c, fp (ρ ++ [plB v']) ((hp.set k (.cells T [.row hp.length, .bool b'])).set j .dead ++ [.bytes e l']) i = some c →
        (i < hp.length ∧ i ≠ j ∧ fp ρ hp i = some c) ∨ (i = hp.length ∧ v'.ownBlock = some c) := fun i c hf => by
      obtain ⟨en, z, he, hz, hc⟩ := fp_some hf
      rcases hget i en he with ⟨g1, g2, rfl⟩ | ⟨g1, rfl, rfl⟩ | ⟨g1, g2, g3, g4⟩ | ⟨g1, rfl⟩
      · cases hc
      · have hz' := (hpl i z hz).1 g1
        rw [hpk] at hz'
        cases hz'
        simp [Ent.fp] at hc
        subst hc
        exact Or.inl ⟨g1, fun e => hjk e.symm, hkf⟩
      · exact Or.inl ⟨g1, g2, by rw [fp_mk g4 ((hpl i z hz).1 g1)]; exact hc⟩
      · rw [(hpl i z hz).2 g1] at hc
        exact Or.inr ⟨g1, hc⟩
    have hnewne : ∀ i c, i < hp.length → i ≠ j → fp ρ hp i = some c → v'.ownBlock = some c → False := fun i c hi hij hf hc => by
      by_cases hik : i = k
      · subst hik
        rw [hkf] at hf
        cases hf
        exact hW'.ne hc
      · rcases hown c hc with h3 | h3
        · exact hij (rel.dis i j c hf (by rw [hjf]; exact h3))
        · have := (rel.own i c hf).1; omega
    refine ⟨by simp [rel.len], fun i en z he hz => ?_, fun i c hf => ?_, fun i t c hi ht => ?_, fun i hi hG => ?_, fun i en z he hz => ?_, ho.os.trans rel.os, ho.tape.trans rel.tape, ho.output.trans rel.output, Nat.le_trans rel.size ho.size⟩
    · rcases hget i en he with ⟨g1, g2, rfl⟩ | ⟨g1, rfl, rfl⟩ | ⟨g1, g2, g3, g4⟩ | ⟨g1, rfl⟩
      · trivial
      · have hz' := (hpl i z hz).1 g1
        rw [hpk] at hz'
        cases hz'
        refine ⟨[v', .bool b'], IsL.cons ?_ (IsL.cons rfl (IsL.nil _)), hW'.blk⟩
        simp only [CV.den]
        rw [← rel.len, List.getElem?_append_right (Nat.le_refl _)]
        simp [hv'one, plB]
      · exact Ent.ok_app (Ent.ok_of_block (rel.ok i en z g4 ((hpl i z hz).1 g1)) fun c hc => hkeep i en z c g2 g3 g4 ((hpl i z hz).1 g1) hc) _
      · rw [(hpl i z hz).2 g1]; exact hW'.row.okB _
    · rcases hfp i c hf with ⟨g1, g2, g3⟩ | ⟨g1, g2⟩
      · have := rel.own i c g3
        exact ⟨Nat.lt_of_lt_of_le this.1 ho.size, this.2⟩
      · refine ⟨hW'.row.lt c g2, ?_⟩
        rcases hown c g2 with h3 | h3
        · exact (rel.own j c (by rw [hjf]; exact h3)).2
        · exact Or.inr (Nat.le_trans rel.size h3)
    · rcases hfp i c hi with ⟨g1, g2, g3⟩ | ⟨g1, g2⟩
      · rcases hfp t c ht with ⟨k1, k2, k3⟩ | ⟨k1, k2⟩
        · exact rel.dis i t c g3 k3
        · exact (hnewne i c g1 g2 g3 k2).elim
      · rcases hfp t c ht with ⟨k1, k2, k3⟩ | ⟨k1, k2⟩
        · exact (hnewne t c k1 k2 k3 g2).elim
        · omega
    · refine (ho.block i (Nat.lt_of_lt_of_le hi rel.size) fun hm => ?_).trans (rel.kept i hi hG)
      have hno : ∀ t, fp ρ hp t = some i → False := fun t ht => by
        rcases (rel.own t i ht).2 with h5 | h5
        · exact hG h5
        · omega
      rcases hmemG i hm with rfl | h3
      · exact hno k hkf
      · exact hno j (by rw [hjf]; exact h3)
    · rcases hget i en he with ⟨g1, g2, rfl⟩ | ⟨g1, rfl, rfl⟩ | ⟨g1, g2, g3, g4⟩ | ⟨g1, rfl⟩
      · trivial
      · trivial
      · refine Ent.dat_mono (rel.dat i en z g4 ((hpl i z hz).1 g1)) (rel.datStep ho.size (fun t c hf => ?_) fun c hc hnf _ => ho.block c hc fun hm => ?_) fun c hc => ho.block c (rel.own i c (by rw [fp_mk g4 ((hpl i z hz).1 g1)]; exact hc)).1 fun hm => ?_
        · rcases hfp t c hf with ⟨_, _, h5⟩ | ⟨_, h5⟩
          · exact Or.inl ⟨t, h5⟩
          · rcases hown c h5 with h6 | h6
            · exact Or.inl ⟨j, by rw [hjf]; exact h6⟩
            · exact Or.inr h6
        · rcases hmemG c hm with rfl | h3
          · exact hnf k hkf
          · exact hnf j (by rw [hjf]; exact h3)
        · have hif : fp ρ hp i = some c := by rw [fp_mk g4 ((hpl i z hz).1 g1)]; exact hc
          rcases hmemG c hm with rfl | h3
          · exact g3 (rel.dis i k _ hif hkf)
          · exact g2 (rel.dis i j c hif (by rw [hjf]; exact h3))
      · trivial

/-- The entries of a writer. -/
def wrH (T e : Nat) (l : List UInt8) (b : Bool) : List Ent := [.cells T [.row 1, .bool b], .bytes e l]

/-- The writer behind a method. -/
def wrFin (T e : Nat) (l : List UInt8) (b : Bool) (h : List Ent) : Prop :=
  match h with
  | .cells t [.row j, x] :: _ => match h[j]? with
    | some (.bytes e' m) => t = T ∧ e' = e ∧ m = l ∧ cvSame x (.bool b)
    | _ => False
  | _ => False

theorem Rel.wr {T e : TypeId} {W : World} {g : Nat} {v : Value} {l : List UInt8} {b : Bool} (w : IsW T e W g v l b) : Rel W (g :: v.ownBlock.toList) [⟨g, undef, 0⟩, plB v] (wrH T e l b) W := by
  have hg : g < W.heap.size := (Array.getElem?_eq_some_iff.1 w.blk).1
  have hone : Vx.one v = true := w.row.one
  have h0 : ∀ {k : Nat} {en : Ent}, (wrH T e l b)[k]? = some en → (k = 0 ∧ en = .cells T [.row 1, .bool b]) ∨ (k = 1 ∧ en = .bytes e l) := fun {k en} h => by
    match k, h with
    | 0, h => exact Or.inl ⟨rfl, (Option.some.inj h).symm⟩
    | 1, h => exact Or.inr ⟨rfl, (Option.some.inj h).symm⟩
    | k + 2, h => simp [wrH] at h
  have hf : ∀ {k c : Nat}, fp [⟨g, undef, 0⟩, plB v] (wrH T e l b) k = some c → (k = 0 ∧ c = g) ∨ (k = 1 ∧ v.ownBlock = some c) := fun {k c} h => by
    obtain ⟨en, p, he, hp, hx⟩ := fp_some h
    rcases h0 he with ⟨rfl, rfl⟩ | ⟨rfl, rfl⟩
    · simp at hp; subst hp; simp [Ent.fp] at hx; exact Or.inl ⟨rfl, hx.symm⟩
    · simp at hp; subst hp; exact Or.inr ⟨rfl, hx⟩
  refine ⟨rfl, fun k en p he hp => ?_, fun k c h => ?_, fun j k c h1 h2 => ?_, fun _ _ _ => rfl, fun k en p he hp => ?_, rfl, rfl, rfl, Nat.le_refl _⟩
  · rcases h0 he with ⟨rfl, rfl⟩ | ⟨rfl, rfl⟩
    · simp at hp; subst hp
      exact ⟨[v, .bool b], IsL.cons (by simp [CV.den, hone, plB]) (IsL.cons rfl (IsL.nil _)), w.blk⟩
    · simp at hp; subst hp
      exact w.row.okB _
  · rcases hf h with ⟨rfl, rfl⟩ | ⟨rfl, h3⟩
    · exact ⟨hg, Or.inl (by simp)⟩
    · exact ⟨w.row.lt c h3, Or.inl (by simp [h3])⟩
  · rcases hf h1 with ⟨rfl, rfl⟩ | ⟨rfl, h3⟩
    · rcases hf h2 with ⟨rfl, _⟩ | ⟨rfl, h4⟩
      · rfl
      · exact (w.ne h4).elim
    · rcases hf h2 with ⟨rfl, rfl⟩ | ⟨rfl, h4⟩
      · exact (w.ne h3).elim
      · rfl
  · rcases h0 he with ⟨rfl, rfl⟩ | ⟨rfl, rfl⟩ <;> trivial

theorem MethW.of {P : Program} {E : Tbl} {C : List (Nat × App)} (M : List Nat) (U : Nat) (R : List (Nat × List (Nat × Bool))) (hE : E.Ok P) (hC : CtsOk P C) (hm : P.follows .mixedOrders = true)
    {f : FuncId} {fn : Func} {c : Code} {n : Nat} {res : List ResultVar} (hf : P.funcs[f]? = some fn) (hb : fn.body = some c) (hn : fn.ntmps = n) (hr : fn.results.toList = res) (hc : codeOk R c = true) (hcall : callable P f = true)
    {T e : TypeId} {spec : SpecW} (hpf : ∀ l b args pre r l' b', spec l b args = some (pre, r, l', b') → r.pf = true)
    (hx : ∀ l b args pre r l' b', spec l b args = some (pre, r, l', b') → pre → exec (env (lft P 2) U .std E C R) M c ⟨(.c (.ptr 0 0) :: args) ++ List.replicate (n - (args.length + 1)) .und, wrH T e l b⟩ (fin .std E res fun v h => svSame v r ∧ wrFin T e l' b' h)) : MethW P f T e spec := by
  refine ⟨hcall, fun l b args pre r l' b' hs hp us hus W g v hw => ?_⟩
  have hargs : IsS [⟨g, undef, 0⟩, plB v] (.c (.ptr 0 0) :: args) (.pointer (some ⟨g, 0, none⟩) :: us) := ⟨_, us, rfl, rfl, by simpa using hus.app_ρ [⟨g, undef, 0⟩, plB v]⟩
  refine Calls.mono (fn_ok (N := env (lft P 2) U .std E C R) rfl hE hC hm M hf hb hn hr hc (h := wrH T e l b) (fun c st K _ h => h) (Rel.wr hw) hargs _ (hx l b args pre r l' b' hs hp)) fun en W' he => ?_
  obtain ⟨u0, u, ρ', h', rfl, h1, h2, h3, h4⟩ := he
  have pf := hpf _ _ _ _ _ _ _ hs
  unfold wrFin at h4
  split at h4
  · rename_i t j x tl
    split at h4
    · rename_i e' m hj
      obtain ⟨rfl, rfl, rfl, hsame⟩ := h4
      have hp0 : ([⟨g, undef, 0⟩, plB v] ++ ρ' : List Pl)[0]? = some ⟨g, undef, 0⟩ := rfl
      obtain ⟨vs, k1, k2⟩ := h2.ok 0 _ ⟨g, undef, 0⟩ rfl hp0
      obtain ⟨q, hq, hrow⟩ := h2.place hj
      have hqone : one q.v = true := hrow.1.one
      have hvs : vs = [q.v, .bool b'] := by
        have hlen := k1.len
        match vs, hlen with
        | [a, c], _ =>
          simp only [IsL, List.map_cons, List.cons.injEq, List.map_nil, and_true] at k1
          have hc := cvSame_ok hsame k1.2
          have e1 : q.v = a := by
            have := k1.1
            simp only [CV.den, hq, hqone, if_true, Option.some.injEq] at this
            exact this
          have e2 : Value.bool b' = c := Option.some.inj hc
          rw [e1, e2]
      subst hvs
      have hjne : j ≠ 0 := fun e => by subst e; simp at hj
      have hjf : fp ([⟨g, undef, 0⟩, plB v] ++ ρ') (.cells t [.row j, x] :: tl) j = q.v.ownBlock := by rw [fp_mk hj hq]; rfl
      refine ⟨u, q.v, rfl, SV.is_pf pf (svSame_ok h3 h1) [], ⟨k2, hrow.1, fun hne => ?_⟩, ⟨h2.os, h2.tape, h2.output, h2.size, fun i hi hne => h2.kept i hi hne⟩, fun c hc => ?_⟩
      · exact hjne (h2.dis j 0 g (by rw [hjf]; exact hne) (by rw [fp_mk rfl hp0]; rfl))
      · rcases (h2.own j c (by rw [hjf]; exact hc)).2 with h5 | h5
        · rcases List.mem_cons.1 h5 with h6 | h6
          · subst h6
            exact (hjne (h2.dis j 0 c (by rw [hjf]; exact hc) (by rw [fp_mk rfl hp0]; rfl))).elim
          · left
            cases hv : v.ownBlock with
            | none => rw [hv] at h6; simp at h6
            | some d => rw [hv] at h6; simp at h6; rw [h6]
        · exact Or.inr h5
    · exact h4.elim
  · exact h4.elim

/-- A function that makes a new writer. -/
structure MakesW (P : Program) (f : FuncId) (T e : TypeId) : Prop where
  fn : callable P f = true
  run : ∀ W, Calls P f #[] W fun en W' => ∃ g, en = .returned (.pointer (some ⟨g, 0, none⟩)) ∧ W'.heap[g]? = some (.cells #[.slice none 0 0, .bool false] T (0, 0)) ∧ W.heap.size ≤ g ∧ Below W.heap.size W W'

def appMakesW (T e : Nat) : App := fun args h =>
  match args with
  | [] => some ⟨True, .c (.ptr h.length 0), h ++ [.cells T [.row (h.length + 1), .ff]] ++ [.bytes e []], []⟩
  | _ => none

theorem MakesW.ct {P : Program} {f : FuncId} {T e : TypeId} (m : MakesW P f T e) : CtOk P f (appMakesW T e) := by
  refine ⟨callable_spec m.fn, fun args hp r hr => ?_, fun args hp r hr hpre w0 G ρ W us rel hs => ?_⟩
  · unfold appMakesW at hr
    split at hr
    · cases hr
      refine ⟨by simp, fun k hk _ => ?_⟩
      show (hp ++ [_] ++ [_])[k]? = _
      rw [List.append_assoc, List.getElem?_append_left hk]
    · cases hr
  · unfold appMakesW at hr
    split at hr
    · cases hr
      cases hs
      refine Calls.mono (m.run W) fun en W' he => ?_
      obtain ⟨g, rfl, hg, hnew, hb⟩ := he
      have r1 := rel.belowStep hb
      have hglt : g < W'.heap.size := (Array.getElem?_eq_some_iff.1 hg).1
      have hnofp : ∀ j, fp ρ hp j ≠ some g := fun j hf => by have := (rel.own j g hf).1; omega
      refine ⟨_, [⟨g, undef, 0⟩, ⟨0, .slice none 0 0, 0⟩], rfl, ?_, ?_⟩
      · show CV.den _ _ = _
        simp only [CV.den]
        rw [← rel.len, List.getElem?_append_right (Nat.le_refl _)]
        simp
      · show Rel w0 G _ (hp ++ [_] ++ [_]) W'
        have hpl : ∀ j q, (ρ ++ [⟨g, undef, 0⟩, ⟨0, .slice none 0 0, 0⟩])[j]? = some q → (j < hp.length → ρ[j]? = some q) ∧ (j = hp.length → q = ⟨g, undef, 0⟩) ∧ (j = hp.length + 1 → q = ⟨0, .slice none 0 0, 0⟩) := fun j q hq => by
          rcases Nat.lt_or_ge j ρ.length with h1 | h1
          · rw [List.getElem?_append_left h1] at hq
            exact ⟨fun _ => hq, fun e => by rw [rel.len] at h1; omega, fun e => by rw [rel.len] at h1; omega⟩
          · rw [List.getElem?_append_right h1] at hq
            refine ⟨fun h3 => by rw [rel.len] at h1; omega, fun e => ?_, fun e => ?_⟩
            · rw [show j - ρ.length = 0 by rw [rel.len]; omega] at hq; simpa using hq.symm
            · rw [show j - ρ.length = 1 by rw [rel.len]; omega] at hq; simpa using hq.symm
        have hget : ∀ j en, (hp ++ [.cells T [.row (hp.length + 1), .ff]] ++ [.bytes e []])[j]? = some en → (j < hp.length ∧ hp[j]? = some en) ∨ (j = hp.length ∧ en = .cells T [.row (hp.length + 1), .ff]) ∨ (j = hp.length + 1 ∧ en = .bytes e []) := fun j en he => by
          rcases getElem?_snoc he with ⟨g1, g2⟩ | ⟨g1, rfl⟩
          · rcases getElem?_snoc g2 with ⟨g3, g4⟩ | ⟨g3, rfl⟩
            · exact Or.inl ⟨g3, g4⟩
            · exact Or.inr (Or.inl ⟨g3, rfl⟩)
          · simp at g1
            exact Or.inr (Or.inr ⟨g1, rfl⟩)
        have hfp : ∀ j c, fp (ρ ++ [⟨g, undef, 0⟩, ⟨0, .slice none 0 0, 0⟩]) (hp ++ [.cells T [.row (hp.length + 1), .ff]] ++ [.bytes e []]) j = some c → (j < hp.length ∧ fp ρ hp j = some c) ∨ (j = hp.length ∧ c = g) := fun j c hf => by
          obtain ⟨en, q, he, hq, hc⟩ := fp_some hf
          rcases hget j en he with ⟨g1, g2⟩ | ⟨g1, rfl⟩ | ⟨g1, rfl⟩
          · exact Or.inl ⟨g1, by rw [fp_mk g2 ((hpl j q hq).1 g1)]; exact hc⟩
          · rw [(hpl j q hq).2.1 g1] at hc
            simp [Ent.fp] at hc
            exact Or.inr ⟨g1, hc.symm⟩
          · rw [(hpl j q hq).2.2 g1] at hc
            simp [Ent.fp, Value.ownBlock] at hc
        refine ⟨by simp [rel.len], fun j en q he hq => ?_, fun j c hf => ?_, fun i j c hi hj => ?_, r1.kept, fun j en q he hq => ?_, r1.os, r1.tape, r1.output, r1.size⟩
        · rcases hget j en he with ⟨g1, g2⟩ | ⟨g1, rfl⟩ | ⟨g1, rfl⟩
          · exact Ent.ok_app (r1.ok j en q g2 ((hpl j q hq).1 g1)) _
          · rw [(hpl j q hq).2.1 g1]
            refine ⟨[.slice none 0 0, .bool false], IsL.cons ?_ (IsL.cons rfl (IsL.nil _)), hg⟩
            simp only [CV.den]
            rw [← rel.len, List.getElem?_append_right (Nat.le_add_right _ _)]
            simp [one]
          · rw [(hpl j q hq).2.2 g1]
            exact (BytesAt.nil W' e).okB _
        · rcases hfp j c hf with ⟨g1, g2⟩ | ⟨g1, rfl⟩
          · have := rel.own j c g2
            exact ⟨Nat.lt_of_lt_of_le this.1 hb.size, this.2⟩
          · exact ⟨hglt, Or.inr (Nat.le_trans rel.size hnew)⟩
        · rcases hfp i c hi with ⟨g1, g2⟩ | ⟨g1, g2⟩
          · rcases hfp j c hj with ⟨k1, k2⟩ | ⟨k1, k2⟩
            · exact rel.dis i j c g2 k2
            · subst k2; exact (hnofp i g2).elim
          · rcases hfp j c hj with ⟨k1, k2⟩ | ⟨k1, k2⟩
            · subst g2; exact (hnofp j k2).elim
            · omega
        · rcases hget j en he with ⟨g1, g2⟩ | ⟨g1, rfl⟩ | ⟨g1, rfl⟩
          · refine Ent.dat_mono (rel.dat j en q g2 ((hpl j q hq).1 g1)) (rel.datStep hb.size (fun t c hf => ?_) fun c hc _ _ => hb.block c hc) fun c hc => hb.block c (rel.own j c (by rw [fp_mk g2 ((hpl j q hq).1 g1)]; exact hc)).1
            rcases hfp t c hf with ⟨_, h5⟩ | ⟨_, h5⟩
            · exact Or.inl ⟨t, h5⟩
            · exact Or.inr (by rw [h5]; exact hnew)
          · trivial
          · trivial
    · cases hr
end Go.Proofs.Ytcgoaicifjndpaa.Vx
end

section
/- Cuts at which the entries get new numbers: what comes behind is walked once, from a state that is told. -/
namespace Go.Proofs.Ytcgoaicifjndpaa.Vx
open Go.RowKit
set_option linter.unusedVariables false
set_option linter.unusedSimpArgs false

theorem Runs.pickL {P : Program} {m : Nat} {c : Code} {st s : St} {K : Ex → St → Prop} (σ : List Nat) (h : StLeL σ m st s) (k : Runs P m c s K) : Runs P m c st K := by
  refine ⟨fun w0 G ρb ρ1 a W hρ r hs hd => ?_⟩
  obtain ⟨c1, hc1⟩ := pick_split (b := ρ1) hρ h.m
  exact k.run w0 G ρb c1 a W hρ (by rw [← hc1]; exact r.pickL h.h h.d) (by rw [← hc1]; exact t_pick h.t hs) hd
theorem Runs.mono {P : Program} {m : Nat} {c : Code} {st : St} {K K' : Ex → St → Prop} (h : ∀ e st', K e st' → K' e st') (k : Runs P m c st K) : Runs P m c st K' := by
  refine ⟨fun w0 G ρb ρ1 a W hρ r hs hd => Code.wp_mono (fun e a W hq => ?_) (k.run w0 G ρb ρ1 a W hρ r hs hd)⟩
  obtain ⟨ex, st', ρ', he, r', hs', hd', hk⟩ := hq
  exact ⟨ex, st', ρ', he, r', hs', hd', h _ _ hk⟩
theorem Runs.seq {P : Program} {m : Nat} {x y : Code} {st : St} {K : Ex → St → Prop} (h : Runs P m x st fun e st' => match e with
      | .normal => Runs P m y st' K
      | e => K e st') : Runs P m (.seq x y) st K := by
  refine ⟨fun w0 G ρb ρ1 a W hρ r hs hd => wp_seq (Code.wp_mono (fun e a W hq => ?_) (h.run w0 G ρb ρ1 a W hρ r hs hd))⟩
  obtain ⟨ex, st', ρ', he, r', hs', hd', hk⟩ := hq
  cases ex with
  | normal =>
    cases e <;> try exact (show False from he).elim
    exact hk.run w0 G ρb ρ' a W hρ r' hs' hd'
  | exit i =>
    cases e <;> try exact (show False from he).elim
    exact ⟨.exit i, st', ρ', he, r', hs', hd', hk⟩
  | ret =>
    cases e <;> try exact (show False from he).elim
    exact ⟨.ret, st', ρ', he, r', hs', hd', hk⟩
/-- Behind x the state is s, but for the numbers of the entries, and q holds. -/
theorem Runs.cut {P : Program} {m : Nat} {x y : Code} {st : St} {K : Ex → St → Prop} (s : St) (q : Prop) (h : Runs P m x st fun e st' => match e with
      | .normal => (∃ σ, StLeL σ m st' s) ∧ q
      | e => K e st') (k : q → Runs P m y s K) : Runs P m (.seq x y) st K := by
  refine Runs.seq (Runs.mono (fun e st' he => ?_) h)
  cases e with
  | normal =>
    obtain ⟨⟨σ, hσ⟩, hq⟩ := he
    exact Runs.pickL σ hσ (k hq)
  | exit i => exact he
  | ret => exact he
/-- The rule of loops, a round as a run. -/
theorem loop_ruleX {P : Program} {m : Nat} {c : Code} {st : St} {K : Ex → St → Prop} {X : Type} (S : X → St) (μ : X → Nat) (x0 : X) (σ0 : List Nat) (h0 : StLeL σ0 m st (S x0))
    (round : ∀ x, Runs P m c (S x) fun e st' => match e with
      | .normal => ∃ y σ, μ y < μ x ∧ StLeL σ m st' (S y)
      | e => K e st') : Runs P m (.loop c) st K := by
  refine ⟨fun w0 G ρb ρ1 a W hρ r hs hd => ?_⟩
  refine wp_loop_ghost (fun n a W => ∃ x ρ', μ x = n ∧ Rel w0 G (ρb ++ ρ') (S x).h W ∧ IsS (ρb ++ ρ') (S x).t a.tmps.toList ∧ a.defers = []) (μ x0) ?_ ?_
  · obtain ⟨c1, hc1⟩ := pick_split (b := ρ1) hρ h0.m
    exact ⟨x0, c1, rfl, by rw [← hc1]; exact r.pickL h0.h h0.d, by rw [← hc1]; exact t_pick h0.t hs, hd⟩
  · rintro n a W ⟨x, ρ', rfl, r', hs', hd'⟩
    refine Code.wp_mono (fun e a W hq => ?_) ((round x).run w0 G ρb ρ' a W hρ r' hs' hd')
    obtain ⟨ex, st', ρ2, he, r2, hs2, hd2, hk⟩ := hq
    cases ex with
    | normal =>
      cases e <;> try exact (show False from he).elim
      obtain ⟨y, σ, hy, hle⟩ := hk
      obtain ⟨c1, hc1⟩ := pick_split (b := ρ2) hρ hle.m
      exact ⟨μ y, hy, y, c1, rfl, by rw [← hc1]; exact r2.pickL hle.h hle.d, by rw [← hc1]; exact t_pick hle.t hs2, hd2⟩
    | exit i =>
      cases e <;> try exact (show False from he).elim
      exact ⟨.exit i, st', ρ2, he, r2, hs2, hd2, hk⟩
    | ret =>
      cases e <;> try exact (show False from he).elim
      exact ⟨.ret, st', ρ2, he, r2, hs2, hd2, hk⟩
/-- What a block's code leaves, to what stands around it. -/
theorem Runs.block {P : Program} {m : Nat} {id : Nat} {c : Code} {st : St} {K : Ex → St → Prop} (h : Runs P m c st fun e st' => match e with
      | .exit j => if (j == id) = true then K .normal st' else K (.exit j) st'
      | e => K e st') : Runs P m (.block id c) st K := by
  refine ⟨fun w0 G ρb ρ1 a W hlen r hs hd => wp_block (Code.wp_mono (fun e a W hq => ?_) (h.run w0 G ρb ρ1 a W hlen r hs hd))⟩
  obtain ⟨ex, st', ρ', he, r', hs', hd', hk⟩ := hq
  cases ex with
  | normal =>
    cases e <;> try exact (show False from he).elim
    exact ⟨.normal, st', ρ', trivial, r', hs', hd', hk⟩
  | exit i =>
    cases e <;> try exact (show False from he).elim
    rename_i j
    have he' : i = j := he
    subst he'
    simp only [Exit.inBlock]
    by_cases hi : i = id
    · rw [if_pos hi]
      simp only [hi, beq_self_eq_true, if_true] at hk
      exact ⟨.normal, st', ρ', trivial, r', hs', hd', hk⟩
    · rw [if_neg hi]
      have : (i == id) = false := by simpa using hi
      simp only [this, Bool.false_eq_true, if_false] at hk
      exact ⟨.exit i, st', ρ', rfl, r', hs', hd', hk⟩
  | ret =>
    cases e <;> try exact (show False from he).elim
    exact ⟨.ret, st', ρ', he, r', hs', hd', hk⟩
end Go.Proofs.Ytcgoaicifjndpaa.Vx
end
