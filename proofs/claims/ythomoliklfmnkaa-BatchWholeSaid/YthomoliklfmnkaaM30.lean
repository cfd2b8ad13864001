/- Messages put together: contracts that leave an own row, by hand. -/
import Derived.Test.YthomoliklfmnkaaM29
import Derived.Test.YthomoliklfmnkaaM16
section
namespace Go.Proofs.Ythomoliklfmnkaa.Vx
open Go.RowKit
set_option linter.unusedVariables false
set_option linter.unusedSimpArgs false
def tbJ : Tbl where
  T :=
    (38, ⟨1, false, [.val (.slice none 0 0)], .slice 60, 24⟩) ::
    (60, ⟨50, true, [.int .i64 (0), .int .i64 (0), .int .i64 (0), .int .u8 (0), .int .u8 (0), .int .u8 (0), .int .u8 (0), .int .u8 (0), .int .u8 (0), .int .u8 (0), .int .u8 (0), .int .u8 (0), .int .u8 (0), .int .u8 (0), .int .u8 (0), .int .u8 (0), .int .u8 (0), .int .u8 (0), .int .u8 (0), .int .u8 (0), .int .u8 (0), .int .u8 (0), .int .u8 (0), .int .u8 (0), .int .u8 (0), .int .u8 (0), .int .u8 (0), .int .u8 (0), .int .u8 (0), .int .u8 (0), .int .u8 (0), .int .u8 (0), .int .u8 (0), .int .u8 (0), .int .u8 (0), .str [], .int .i64 (0), .str [], .int .i64 (0), .int .i64 (0), .str [], .int .i64 (0), .int .i64 (0), .str [], .int .i64 (0), .int .i64 (0), .int .i64 (0), .val (.slice none 0 0), .int .i64 (0), .val (.slice none 0 0)], .struct [(0, (1, false)), (1, (34, true)), (35, (8, true)), (43, (1, false)), (44, (1, false)), (45, (1, false)), (46, (2, true)), (48, (2, true))], 240⟩) ::
    []
  F := []
theorem tbJ_ok : tbJ.Ok Try.prog where
  T := TblOk.cons (by kernel_rfl) <| TblOk.cons (by kernel_rfl) <| TblOk.nil _
  F := FlatsOk.nil _
theorem layC_app {h x : List Ent} : ∀ {cs : List CV} {r : List Cell × List Nat}, layC h cs = some r → layC (h ++ x) cs = some r
  | [], r, hr => hr
  | c :: cs, r, hr => by
    have get : ∀ {k : Nat} {e : Ent}, h[k]? = some e → (h ++ x)[k]? = some e := fun {k e} he => by
      rw [List.getElem?_append_left (List.getElem?_eq_some_iff.1 he).1]; exact he
    unfold layC at hr ⊢
    split at hr
    · cases ‹c :: cs = []›
    · rename_i k r0 he
      cases he
      split at hr
      · rename_i cs' ks hl
        rw [layC_app hl]
        dsimp only
        split at hr
        · rename_i hk; rw [get hk]; exact hr
        · rename_i hk; rw [get hk]; exact hr
        · rename_i hk; rw [get hk]; exact hr
        · rename_i hk; rw [get hk]; exact hr
        · cases hr
      · cases hr
    · rename_i c0 r0 hne he
      cases he
      split at hr
      · rename_i cs' ks hl hpf
        rw [layC_app hl, hpf]
        dsimp only
        cases c <;> first | exact hr | exact absurd rfl (hne _)
      · cases hr
def appWith1 : App := fun args h => match args with
  | [.c (.row k)] => match (h[k]?).bind Ent.dview with
    | some (_, 50, n, g) => some ⟨n ≤ 1000000, .c (.row h.length), h ++ [.orow 60 50 n g], []⟩
    | _ => none
  | _ => none
set_option maxRecDepth 100000 in
set_option maxHeartbeats 4000000 in
theorem with1Ct : CtOk Try.prog 36 appWith1 := by
  have hsp : ∀ args h r, appWith1 args h = some r → ∃ k e fr n g, args = [.c (.row k)] ∧ h[k]? = some e ∧ e.dview = some (fr, 50, n, g) ∧ r = ⟨n ≤ 1000000, .c (.row h.length), h ++ [.orow 60 50 n g], []⟩ := fun args h r hr => by
    unfold appWith1 at hr
    split at hr
    · split at hr
      · rename_i k _ fr n g hv
        obtain ⟨e, he, hd⟩ := Option.bind_eq_some_iff.1 hv
        exact ⟨k, e, fr, n, g, rfl, he, hd, (Option.some.inj hr).symm⟩
      · cases hr
    · cases hr
  refine ⟨callable_spec (by kernel_rfl), fun args h r hr => ?_, fun args h r hr hpre w0 G ρ W us rel hus => ?_⟩
  · obtain ⟨k, e, fr, n, g, rfl, hk, hd, rfl⟩ := hsp args h r hr
    exact ⟨by simp, fun j hj hn => List.getElem?_append_left hj⟩
  · obtain ⟨k, e, fr, n, g, rfl, hk, hd, rfl⟩ := hsp args h r hr
    have hn : n ≤ 1000000 := hpre
    have hfit : 0 + n ≤ maxLen ∧ (0 + n) * 240 ≤ 140737488355328 := by unfold maxLen; omega
    refine Calls.mono (fn_ok (N := env (lft Try.prog h.length) 0 .std tbJ [] []) rfl tbJ_ok (CtsOk.nil _) (by kernel_rfl) [] Try.func36 rfl rfl rfl (by kernel_rfl) (h := h) (fun c st K _ h => h) rel hus (fun v hf => v = .c (.row h.length) ∧ hf = h ++ [.orow 60 50 n g]) ?_) fun e W' he => ?_
    · simp [exec, runL, guarded, stepRun, pevK, pev, ev, Vx.put, appD, appM, appN, nestT, look, tbJ, env, hasSl, fin, retVal, SV.ofV, CV.ofV, Arith.std, Need_iff, Nat.beq, List.getElem?_append_right, hk, hd]
      exact ⟨by unfold maxLen; omega, by omega⟩
    · obtain ⟨v, u, ρ', h', rfl, h1, h2, rfl, rfl⟩ := he
      exact ⟨u, ρ', rfl, h1, h2⟩
/-- Messages, and none or one behind them. -/
def appJoin : App := fun args h => match args with
  | [.c (.row k), y] => match (h[k]?).bind Ent.dview with
    | some (_, 50, n, g) => match y with
      | .c (.val (.slice none 0 0)) => some ⟨n ≤ 1000000, .c (.row (h.length + 2)), h ++ [.data false 60 50 0 (fun _ _ => .pl .tt), .dead, .orow 60 50 (n + 0) (catC n g fun _ _ => .pl .tt)], []⟩
      | .c (.sl j 0 1 1) => match h[j]? with
        | some (.cells _ cs) => match Nat.beq cs.length 50, layC h cs with
          | true, some (ls, []) => some ⟨n ≤ 1000000, .c (.row (h.length + 1)), h ++ [.dead, .orow 60 50 (n + 1) (pushC n g ls)], []⟩
          | _, _ => none
        | _ => none
      | _ => none
    | _ => none
  | _ => none
set_option maxRecDepth 100000 in
set_option maxHeartbeats 4000000 in
theorem joinNil {w0 : World} {G : Gs} {ρ : List Pl} {W : World} {us : List Value} {h : List Ent} {k n : Nat} {e : Ent} {fr : Bool} {g : Nat → Nat → Cell} (rel : Rel w0 G ρ h W) (hus : IsS ρ [.c (.row k), .c (.val (.slice none 0 0))] us) (hk : h[k]? = some e) (hd : e.dview = some (fr, 50, n, g)) (hn : n ≤ 1000000) :
    Calls Try.prog 35 us.toArray W fun e W' => ∃ u ρ', e = .returned u ∧ SV.is (ρ ++ ρ') (.c (.row (h.length + 2))) u ∧ Rel w0 G (ρ ++ ρ') (h ++ [.data false 60 50 0 (fun _ _ => .pl .tt), .dead, .orow 60 50 (n + 0) (catC n g fun _ _ => .pl .tt)]) W' := by
  have r1 := rel.addNilE (.data false 60 50 0 (fun _ _ => .pl .tt)) rfl
  have hus1 : IsS (ρ ++ [⟨0, .slice none 0 0, 0⟩]) [.c (.row k), .c (.row h.length)] us := by
    obtain ⟨u, us1, rfl, a1, u2, us2, rfl, a2, a3⟩ := hus
    cases a3
    have e2 : u2 = .slice none 0 0 := (Option.some.inj a2).symm
    refine ⟨_, _, rfl, SV.is_app a1 _, _, _, rfl, ?_, rfl⟩
    show CV.den _ (.row h.length) = some u2
    simp only [CV.den]
    rw [← rel.len, List.getElem?_append_right (Nat.le_refl _), e2]
    simp [one]
  have hk1 : (h ++ [Ent.data false 60 50 0 fun _ _ => .pl .tt])[k]? = some e := by
    rw [List.getElem?_append_left (List.getElem?_eq_some_iff.1 hk).1]; exact hk
  have hk2 : (h ++ [Ent.data false 60 50 0 fun _ _ => .pl .tt])[h.length]? = some (.data false 60 50 0 fun _ _ => .pl .tt) := by simp
  have hf : ∀ hf, hf = (h ++ [Ent.data false 60 50 0 fun _ _ => .pl .tt]) ++ [.dead, .orow 60 50 (n + 0) (catC n g fun _ _ => .pl .tt)] → hf = h ++ [.data false 60 50 0 (fun _ _ => .pl .tt), .dead, .orow 60 50 (n + 0) (catC n g fun _ _ => .pl .tt)] := fun hf e => by rw [e]; simp
  have hl : (h ++ [Ent.data false 60 50 0 fun _ _ => Cell.pl .tt]).length = h.length + 1 := by simp
  generalize h ++ [Ent.data false 60 50 0 fun _ _ => Cell.pl .tt] = H at *
  refine Calls.mono (fn_ok (N := env (lft Try.prog H.length) 0 .std tbJ [] []) rfl tbJ_ok (CtsOk.nil _) (by kernel_rfl) [] Try.func35 rfl rfl rfl (by kernel_rfl) (h := H) (fun c st K _ h => h) r1 hus1 (fun v hf => v = .c (.row (H.length + 1)) ∧ hf = H ++ [.dead, .orow 60 50 (n + 0) (catC n g fun _ _ => .pl .tt)]) ?_) fun e W' he => ?_
  · have hkl : k < H.length := (List.getElem?_eq_some_iff.1 hk1).1
    have hk3 : ∀ x, (H ++ [x])[k]? = some e := fun x => by rw [List.getElem?_append_left hkl]; exact hk1
    have hk4 : ∀ x, (H ++ [x])[h.length]? = some (.data false 60 50 0 fun _ _ => .pl .tt) := fun x => by rw [List.getElem?_append_left (by omega)]; exact hk2
    have hk5 : ∀ x : Ent, (H ++ [x])[H.length]? = some x := fun x => by simp
    have hd2 : Ent.dview (.data false 60 50 0 fun _ _ => Cell.pl .tt) = some (false, 50, 0, fun _ _ => Cell.pl .tt) := rfl
    have hd3 : ∀ n g, Ent.dview (.orow 60 50 n g) = some (false, 50, n, g) := fun _ _ => rfl
    simp [exec, runL, guarded, stepRun, pevK, pev, ev, Vx.put, appD, appM, appN, nestT, look, tbJ, env, hasSl, fin, retVal, SV.ofV, CV.ofV, Arith.std, Need_iff, Nat.beq, hk1, hk2, hk3, hk4, hk5, hd, hd2, hd3, maskedAt]
    exact ⟨by unfold maxLen; omega, by omega⟩
  · obtain ⟨v, u, ρ', h', rfl, h1, h2, rfl, h3⟩ := he
    rw [hf _ h3] at h2
    rw [hl] at h1
    exact ⟨u, _, rfl, by rw [← List.append_assoc]; exact h1, by rw [← List.append_assoc]; exact h2⟩
set_option maxRecDepth 100000 in
set_option maxHeartbeats 4000000 in
theorem joinOne {w0 : World} {G : Gs} {ρ : List Pl} {W : World} {us : List Value} {H : List Ent} {k n j ty : Nat} {e : Ent} {fr : Bool} {g : Nat → Nat → Cell} {cs : List CV} {ls : List Cell} (rel : Rel w0 G ρ H W) (hus : IsS ρ [.c (.row k), .c (.sl j 0 1 1)] us) (hk1 : H[k]? = some e) (hd : e.dview = some (fr, 50, n, g)) (hn : n ≤ 1000000)
    (hj : H[j]? = some (.cells ty cs)) (hcs : cs.length = 50) (hly : layC H cs = some (ls, [])) :
    Calls Try.prog 35 us.toArray W fun e W' => ∃ u ρ', e = .returned u ∧ SV.is (ρ ++ ρ') (.c (.row (H.length + 1))) u ∧ Rel w0 G (ρ ++ ρ') (H ++ [.dead, .orow 60 50 (n + 1) (pushC n g ls)]) W' := by
  refine Calls.mono (fn_ok (N := env (lft Try.prog H.length) 0 .std tbJ [] []) rfl tbJ_ok (CtsOk.nil _) (by kernel_rfl) [] Try.func35 rfl rfl rfl (by kernel_rfl) (h := H) (fun c st K _ h => h) rel hus (fun v hf => v = .c (.row (H.length + 1)) ∧ hf = H ++ [.dead, .orow 60 50 (n + 1) (pushC n g ls)]) ?_) fun e W' he => ?_
  · have hjl : j < H.length := (List.getElem?_eq_some_iff.1 hj).1
    have hk4 : ∀ x, (H ++ [x])[j]? = some (.cells ty cs) := fun x => by rw [List.getElem?_append_left hjl]; exact hj
    have hk5 : ∀ x : Ent, (H ++ [x])[H.length]? = some x := fun x => by simp
    have hl2 : ∀ x, layC (H ++ x) cs = some (ls, []) := fun x => layC_app hly
    simp [exec, runL, guarded, stepRun, pevK, pev, ev, Vx.put, appD, appM, appN, nestT, look, tbJ, env, hasSl, fin, retVal, SV.ofV, CV.ofV, Arith.std, Need_iff, Nat.beq, hk1, hk4, hk5, hd, hcs, hl2, frzs, frzOk, maskedAt]
    exact ⟨⟨by unfold maxLen; omega, by omega⟩, fun _ _ => ⟨by unfold maxLen; omega, by omega⟩⟩
  · obtain ⟨v, u, ρ', h', rfl, h1, h2, rfl, rfl⟩ := he
    exact ⟨u, _, rfl, h1, h2⟩
theorem joinCt : CtOk Try.prog 35 appJoin := by
  have hsp : ∀ args h r, appJoin args h = some r → ∃ k e fr n g, h[k]? = some e ∧ e.dview = some (fr, 50, n, g) ∧ r.pre = (n ≤ 1000000) ∧ r.ms = [] ∧ ((args = [.c (.row k), .c (.val (.slice none 0 0))] ∧ r.res = .c (.row (h.length + 2)) ∧ r.h = h ++ [.data false 60 50 0 (fun _ _ => .pl .tt), .dead, .orow 60 50 (n + 0) (catC n g fun _ _ => .pl .tt)]) ∨
      ∃ j ty cs ls, args = [.c (.row k), .c (.sl j 0 1 1)] ∧ h[j]? = some (.cells ty cs) ∧ cs.length = 50 ∧ layC h cs = some (ls, []) ∧ r.res = .c (.row (h.length + 1)) ∧ r.h = h ++ [.dead, .orow 60 50 (n + 1) (pushC n g ls)]) := fun args h r hr => by
    unfold appJoin at hr
    split at hr
    · split at hr
      · rename_i k y _ fr n g hv
        obtain ⟨e, he, hd⟩ := Option.bind_eq_some_iff.1 hv
        refine ⟨k, e, fr, n, g, he, hd, ?_⟩
        split at hr
        · cases hr
          exact ⟨rfl, rfl, Or.inl ⟨rfl, rfl, rfl⟩⟩
        · split at hr
          · rename_i j _ ty cs hj
            split at hr
            · rename_i ls hb hl
              cases hr
              exact ⟨rfl, rfl, Or.inr ⟨j, ty, cs, ls, rfl, hj, Nat.eq_of_beq_eq_true hb, hl, rfl, rfl⟩⟩
            · cases hr
          · cases hr
        · cases hr
      · cases hr
    · cases hr
  refine ⟨callable_spec (by kernel_rfl), fun args h r hr => ?_, fun args h r hr hpre w0 G ρ W us rel hus => ?_⟩
  · obtain ⟨k, e, fr, n, g, hk, hd, hp, hm, ⟨rfl, e1, e2⟩ | ⟨j, ty, cs, ls, rfl, hj, hc, hl, e1, e2⟩⟩ := hsp args h r hr
    · rw [e2]; exact ⟨by simp, fun j hj hn => List.getElem?_append_left hj⟩
    · rw [e2]; exact ⟨by simp, fun j hj hn => List.getElem?_append_left hj⟩
  · obtain ⟨k, e, fr, n, g, hk, hd, hp, hm, ⟨rfl, e1, e2⟩ | ⟨j, ty, cs, ls, rfl, hj, hc, hl, e1, e2⟩⟩ := hsp args h r hr
    · rw [hp] at hpre
      rw [e1, e2]
      exact joinNil rel hus hk hd hpre
    · rw [hp] at hpre
      rw [e1, e2]
      exact joinOne rel hus hk hd hpre hj hc hl
/-! ### Messages that were put together -/
/-- Elements that are these messages, of whatever age. -/
def IsMs (n : Nat) (g : Nat → Nat → Cell) (L : List PMsg) : Prop := L.length = n ∧ ∀ i j, i < n → j < 50 → (g i j).old = msgG false L i j
theorem IsMs.msg {fr : Bool} {L : List PMsg} {n : Nat} (h : L.length = n) : IsMs n (msgG fr L) L := ⟨h, fun _ _ _ _ => msgG_old⟩
theorem IsMs.pre {n : Nat} {g : Nat → Nat → Cell} {L : List PMsg} (h : IsMs n g L) (ho : ∀ m ∈ L, MsgOk m) (hn : n ≤ 1000000) : msgsPre 60 50 n (fun i j => (g i j).old) ∧ msgsL n (fun i j => (g i j).old) = L := by
  have e := msgsL_eq h.1 (fun m hm => (ho m hm).raw) h.2
  exact ⟨⟨rfl, rfl, fun i j hi hj => by rw [e]; exact h.2 i j hi hj, by rw [e]; exact ho, hn⟩, e⟩
theorem gM_app_lt {L K : List PMsg} {i : Nat} (h : i < L.length) : gM (L ++ K) i = gM L i := by
  unfold gM
  rw [List.getD_eq_getElem?_getD, List.getD_eq_getElem?_getD, List.getElem?_append_left h]
theorem gM_app_ge {L K : List PMsg} {i : Nat} (h : L.length ≤ i) : gM (L ++ K) i = gM K (i - L.length) := by
  unfold gM
  rw [List.getD_eq_getElem?_getD, List.getD_eq_getElem?_getD, List.getElem?_append_right h]
theorem msgG_gM {fr : Bool} {L K : List PMsg} {i k j : Nat} (h : gM L i = gM K k) : msgG fr L i j = msgG fr K k j := by
  simp only [msgG_eq]
  rw [h]
theorem IsMs.push {n : Nat} {g : Nat → Nat → Cell} {L : List PMsg} {ls : List Cell} {m : PMsg} (h : IsMs n g L) (hl : ls.map Cell.old = msgCl false m) : IsMs (n + 1) (pushC n g ls) (L ++ [m]) := by
  refine ⟨by rw [List.length_append, h.1]; rfl, fun i j hi hj => ?_⟩
  unfold pushC
  cases hb : Nat.blt i n with
  | true =>
    rw [Nat.blt_eq] at hb
    exact (h.2 i j hb hj).trans (msgG_gM (gM_app_lt (by rw [h.1]; exact hb)).symm)
  | false =>
    have hb : ¬ i < n := fun h => by rw [← Nat.blt_eq, hb] at h; cases h
    have hin : i = n := by omega
    subst hin
    have hll : ls.length = 50 := by
      have := congrArg List.length hl
      simpa [msgCl, msgClP, h32, pkC] using this
    have e0 : gM (L ++ [m]) i = m := by
      rw [gM_app_ge (Nat.le_of_eq h.1), h.1, Nat.sub_self]
      rfl
    simp only [msgG_eq]
    rw [e0, ← hl]
    show (ls.getD j _).old = (ls.map Cell.old).getD j _
    rw [List.getD_eq_getElem?_getD, List.getD_eq_getElem?_getD, List.getElem?_map, List.getElem?_eq_getElem (by omega)]
    rfl
theorem IsMs.none {g : Nat → Nat → Cell} : IsMs 0 g [] := ⟨rfl, fun i j hi _ => absurd hi (by omega)⟩
end Go.Proofs.Ythomoliklfmnkaa.Vx
end

section
/- Which messages fit nowhere: by the walker, with its map. -/
namespace Go.Proofs.Ythomoliklfmnkaa.Vx
open Go.RowKit
set_option linter.unusedVariables false
set_option linter.unusedSimpArgs false
/-- What was skipped: its groups, its places; the places of the others. -/
structure Sk where
  lg : List Int
  lost : List Int
  rest : List Int
def skOut (F : Nat → Bool) (G : Nat → Int) (lg : List Int) (i : Nat) : Bool := (decide (0 < G i) && decide (G i ∈ lg)) || !F i
def skStep (F : Nat → Bool) (G : Nat → Int) (s : Sk) (i : Nat) : Sk := if skOut F G s.lg i = true then ⟨s.lg ++ [G i], s.lost ++ [(i : Int)], s.rest⟩ else ⟨s.lg, s.lost, s.rest ++ [(i : Int)]⟩
def skip (F : Nat → Bool) (G : Nat → Int) (n : Nat) : Sk := (List.range n).foldl (skStep F G) ⟨[], [], []⟩
theorem skip_succ {F : Nat → Bool} {G : Nat → Int} {n : Nat} : skip F G (n + 1) = skStep F G (skip F G n) n := by simp [skip, List.range_succ]
theorem skip_len {F : Nat → Bool} {G : Nat → Int} : ∀ n, (skip F G n).lg.length = (skip F G n).lost.length ∧ (skip F G n).lost.length + (skip F G n).rest.length = n
  | 0 => ⟨rfl, rfl⟩
  | n + 1 => by
    have ih := skip_len (F := F) (G := G) n
    rw [skip_succ]
    unfold skStep
    split <;> simp <;> omega
open Classical in
theorem mpGet_set {k k' : Value} {n : Int} : ∀ {l : List (Value × Int)}, mpGet k' (mpSet k n l) = if k = k' then n else mpGet k' l
  | [] => by simp [mpGet, mpSet]
  | q :: l => by
    unfold mpSet
    by_cases h : q.1 = k
    · rw [if_pos h]
      by_cases h2 : k = k'
      · simp [mpGet, h2]
      · have : ¬ q.1 = k' := fun e => h2 (h.symm.trans e)
        simp [mpGet, h2, this]
    · rw [if_neg h]
      have ih := mpGet_set (k := k) (k' := k') (n := n) (l := l)
      by_cases h2 : q.1 = k'
      · have h3 : ¬ k = k' := fun e => h (h2.trans e.symm)
        rw [if_neg h3]
        unfold mpGet
        rw [if_pos h2, if_pos h2]
      · unfold mpGet
        rw [if_neg h2, if_neg h2]
        exact ih
theorem in_push {L : List Int} {n : Nat} {x : Int} (hn : n = L.length) : ∀ i, i < n + 1 → pushG n (inG L) [.int .i64 x] i = inG (L ++ [x]) i := fun i hi => by
  subst hn
  exact inG_push L x i hi
/-- The map counts the groups that were skipped. -/
def MInv (ml : List (Value × Int)) (lg : List Int) (k : Nat) : Prop := ∀ g : Int, 0 ≤ mpGet (.int .i64 g) ml ∧ mpGet (.int .i64 g) ml ≤ (k : Int) ∧ (0 < mpGet (.int .i64 g) ml ↔ g ∈ lg)
theorem MInv.nil : MInv [] [] 0 := fun g => by simp [mpGet]
theorem MInv.keep {ml : List (Value × Int)} {lg : List Int} {k : Nat} (h : MInv ml lg k) : MInv ml lg (k + 1) := fun g => by
  obtain ⟨h1, h2, h3⟩ := h g
  exact ⟨h1, by omega, h3⟩
theorem MInv.put {ml : List (Value × Int)} {lg : List Int} {k : Nat} {x : Int} (h : MInv ml lg k) : MInv (mpSet (.int .i64 x) (mpGet (.int .i64 x) ml + 1) ml) (lg ++ [x]) (k + 1) := fun g => by
  obtain ⟨h1, h2, h3⟩ := h g
  obtain ⟨k1, k2, k3⟩ := h x
  rw [mpGet_set]
  by_cases e : x = g
  · subst e
    simp only [if_true, List.mem_append, List.mem_singleton, or_true, iff_true]
    omega
  · rw [if_neg (by simpa using e)]
    refine ⟨h1, by omega, ?_⟩
    rw [h3, List.mem_append, List.mem_singleton]
    exact ⟨Or.inl, fun q => q.resolve_right fun e2 => e e2.symm⟩
def groupOf (n : Nat) (gs : List Int) (i : Nat) : Int := if gs.length = n then iA gs i else 0
def fitsWith (g b c : Int) (U M : List PMsg) (i : Nat) : Bool := fitsM g b c (U ++ [gM M i])
def skPre (n n' : Nat) : Prop := n ≤ 70 ∧ n' ≤ 70
structure LSk (F : Nat → Bool) (G : Nat → Int) (n : Nat) where
  i : Int
  k : Nat
  lg : List Int
  lost : List Int
  rest : List Int
  ml : List (Value × Int)
  a : Nat
  b : Nat
  hk : i = (k : Int)
  h1 : k ≤ n
  hs : skip F G k = ⟨lg, lost, rest⟩
  hm : MInv ml lg k
  ha : a = lost.length
  hb : b = rest.length
def sSkip : SpecF
  | [.agg [.int .i64 g, .int .i64 b, .int .i64 c], .c (.row 0), .c (.row 1), .c (.row 2)], [.data fr ty sz n get, .data fr' ty' sz' n' get', .elems it one n2 get2] => some (msgsPre ty sz n get ∧ msgsPre ty' sz' n' get' ∧ inPre it one n2 get2 ∧ skPre n n', .tup [(some (.row 3), []), (some (.row 4), [])], [.dead, .dead, .dead, .row 3 1 (skip (fitsWith g b c (msgsL n get) (msgsL n' get')) (groupOf n' (iL n2 get2)) n').lost.length (inG (skip (fitsWith g b c (msgsL n get) (msgsL n' get')) (groupOf n' (iL n2 get2)) n').lost), .row 3 1 (skip (fitsWith g b c (msgsL n get) (msgsL n' get')) (groupOf n' (iL n2 get2)) n').rest.length (inG (skip (fitsWith g b c (msgsL n get) (msgsL n' get')) (groupOf n' (iL n2 get2)) n').rest)])
  | _, _ => none

set_option maxRecDepth 100000 in
set_option maxHeartbeats 16000000 in
theorem skipP : Fn Try.prog 34 [] [(60, 250), (60, 250), (3, 1)] sSkip := by
  have hC : CtsOk Try.prog [(35, appJoin), (20, appFn [] [(60, 250)] sFits)] := CtsOk.cons (joinCt) <| CtsOk.cons (Fn.ct fitsP) <| CtsOk.nil _
  refine Fn.of (E := tbB) [] 0 [(9, [(0, true), (1, true), (2, true), (3, true), (4, true), (5, true), (6, true), (7, true), (8, true), (9, true), (10, true), (11, true), (12, false), (13, false), (14, false), (15, true), (16, true)])] tbB_ok hC (by kernel_rfl) Try.func34 rfl rfl rfl (by kernel_rfl) (by kernel_rfl) 3 5 1 ?_ ?_
  · intro args h pre r h' hs
    unfold sSkip at hs
    split at hs
    · cases hs; exact ⟨rfl, rfl, Nat.le_of_ble_eq_true rfl⟩
    · cases hs
  · intro args h pre r h' hs hp
    unfold sSkip at hs
    split at hs
    rotate_left
    · cases hs
    rename_i g b c fr ty sz n get fr' ty' sz' n' get' it one n2 get2
    cases hs
    obtain ⟨⟨rfl, rfl, hst, hok, hm⟩, ⟨rfl, rfl, hst', hok', hm'⟩, ⟨rfl, rfl, hin, hi2⟩, hn1, hn2⟩ := hp
    refine ⟨[.data fr 60 50 n (msgG false (msgsL n get)), .data fr' 60 50 n' (msgG false (msgsL n' get')), .elems 3 1 n2 (inG (iL n2 get2))], ⟨⟨rfl, rfl, rfl, rfl, fun i j hi hj => by rw [hst i j hi hj]; exact Cell.le_refl _⟩, ⟨rfl, rfl, rfl, rfl, fun i j hi hj => by rw [hst' i j hi hj]; exact Cell.le_refl _⟩, ⟨rfl, rfl, rfl, fun i hi => by rw [← hin.eq hi]⟩, trivial⟩, ?_⟩
    have hL : (msgsL n get).length = n := msgsL_len
    have hL' : (msgsL n' get').length = n' := msgsL_len
    have hZ : (iL n2 get2).length = n2 := iL_len
    generalize msgsL n get = L at *
    generalize msgsL n' get' = K at *
    generalize iL n2 get2 = Z at *
    clear hst hst' hin
    have ho := gM_all hok zeroMsg_ok
    have ho' := gM_all hok' zeroMsg_ok
    unfold sFits
    generalize hg0 : (List.length : List UInt8 → Nat) = g0
    generalize hL : lft Try.prog _ = L
    try unfold leafG
    try unfold msgCl
    try unfold msgG
    try unfold msgC
    try unfold inG
    generalize ho0 : @lK = zo0, ho1 : @lV = zo1, ho2 : @lI = zo2, ho3 : @lP = zo3, ho4 : @lN = zo4, ho5 : @pG = zo5, ho6 : @rN = zo6, ho7 : @lenL = zo7, ho8 : @gM = zo8, ho9 : @msgsL = zo9, ho10 : @msgsPre = zo10, ho11 : @fitsM = zo11, ho12 : @skip = zo12, ho13 : @skStep = zo13, ho14 : @skOut = zo14, ho15 : @skPre = zo15, ho16 : @mpGet = zo16, ho17 : @mpSet = zo17, ho18 : @groupOf = zo18, ho19 : @iA = zo19, ho20 : @iL = zo20, ho21 : @catC = zo21, ho22 : @pushC = zo22, ho23 : @inPre = zo23
    generalize hA : Arith.std = A
    cbv
    subst hA hg0 hL ho0 ho1 ho2 ho3 ho4 ho5 ho6 ho7 ho8 ho9 ho10 ho11 ho12 ho13 ho14 ho15 ho16 ho17 ho18 ho19 ho20 ho21 ho22 ho23
    try simp only [← mpGet.eq_def, ← mpSet.eq_def]
    refine Runs.nilTmpE 11 (.row 3 1 0 (inG [])) rfl rfl ?_
    refine Runs.nilTmpE 12 (.row 3 1 0 (inG [])) rfl rfl ?_
    show Runs Try.prog 3 (.loop _) _ _
    refine loop_ruleL (N := env (lft Try.prog 3) 0 .std tbB [(35, appJoin), (20, appFn [] [(60, 250)] sFits)] [(9, [(0, true), (1, true), (2, true), (3, true), (4, true), (5, true), (6, true), (7, true), (8, true), (9, true), (10, true), (11, true), (12, false), (13, false), (14, false), (15, true), (16, true)])]) rfl tbB_ok hC (fun c st K _ h => h) (by kernel_rfl) [] (X := LSk (fitsWith g b c L K) (groupOf n' Z) n')
      (S := fun x => ⟨[.any, .c (.row 0), .c (.row 1), .c (.row 2), .c (.ptr 3 0), .any, .any, .any, .any, .any, .c (.row 4), .c (.row 5), .c (.row 6), .any, .any, .any, .any, .c (.row 1), .c (.int .i64 n'), .c (.int .i64 x.i)] ++ List.replicate 45 .any, [.data fr 60 50 n (msgG false L), .data fr' 60 50 n' (msgG false K), .elems 3 1 n2 (inG Z), .cells 37 [.int .i64 g, .int .i64 b, .int .i64 c], .mp [] x.ml, .row 3 1 x.a (inG x.lost), .row 3 1 x.b (inG x.rest)]⟩) (μ := fun x => n' - x.k) ⟨0, 0, [], [], [], [], 0, 0, rfl, by omega, rfl, MInv.nil, rfl, rfl⟩ (by kernel_rfl) [0, 1, 2, 3, 4, 5, 6] ?_ ?_
    · refine ⟨rfl, by show List.Nodup [3, 4, 5, 6]; decide, ?_, ?_⟩ <;> repeat' (first | exact trivial | exact rfl | apply And.intro | exact (fun _ _ _ _ => Cell.le_refl _) | (intro i hi; rfl) | (intro i hi; exact absurd hi (Nat.not_lt_zero _)))
    rintro ⟨i, k, lg, lost, rest, ml, na, nb, hk, h1, hs, hm, hna, hnb⟩
    replace hk : i = @Nat.cast Int instNatCastInt k := hk
    subst hk
    unfold sFits
    generalize hg0 : (List.length : List UInt8 → Nat) = g0
    generalize hL : lft Try.prog _ = L
    try dsimp only
    try unfold leafG
    try unfold msgCl
    try unfold msgG
    try unfold msgC
    try unfold inG
    generalize ho0 : @lK = zo0, ho1 : @lV = zo1, ho2 : @lI = zo2, ho3 : @lP = zo3, ho4 : @lN = zo4, ho5 : @pG = zo5, ho6 : @rN = zo6, ho7 : @lenL = zo7, ho8 : @gM = zo8, ho9 : @msgsL = zo9, ho10 : @msgsPre = zo10, ho11 : @fitsM = zo11, ho12 : @skip = zo12, ho13 : @skStep = zo13, ho14 : @skOut = zo14, ho15 : @skPre = zo15, ho16 : @mpGet = zo16, ho17 : @mpSet = zo17, ho18 : @groupOf = zo18, ho19 : @iA = zo19, ho20 : @iL = zo20, ho21 : @catC = zo21, ho22 : @pushC = zo22, ho23 : @inPre = zo23
    generalize hA : Arith.std = A
    cbv
    subst hA hg0 hL ho0 ho1 ho2 ho3 ho4 ho5 ho6 ho7 ho8 ho9 ho10 ho11 ho12 ho13 ho14 ho15 ho16 ho17 ho18 ho19 ho20 ho21 ho22 ho23
    try simp only [← mpGet.eq_def, ← mpSet.eq_def]
    have hlen := skip_len (F := fitsWith g b c L K) (G := groupOf n' Z) k
    rw [hs] at hlen
    replace hlen : lg.length = lost.length ∧ lost.length + rest.length = k := hlen
    refine Ife.mk (fun hlt => ?_) (fun hlt => ?_)
    · replace hlt : (k : Int) < @Nat.cast Int instNatCastInt n' := of_decide_eq_true (p := (k : Int) < (n' : Int)) hlt
      have hkL : k < K.length := by omega
      have hokp : ∀ m ∈ L ++ [gM K k], MsgOk m := fun m hm => by
        rcases List.mem_append.1 hm with h | h
        · exact hok m h
        · rw [List.mem_singleton.1 h]; exact ho' k
      refine Need.mk (show 0 ≤ (k : Int) ∧ (k : Int) < (n' : Int) by omega) fun _ => Need.mk (show k < n' by omega) fun _ => ?_
      refine Ife.mk (fun hn => ?_) (fun hn => ?_)
      · replace hn : @Nat.cast Int instNatCastInt n2 = @Nat.cast Int instNatCastInt n' := of_decide_eq_true (p := (n2 : Int) = (n' : Int)) hn
        refine Need.mk (show 0 ≤ (k : Int) ∧ (k : Int) < (n2 : Int) by omega) fun _ => Need.mk (show k < n2 by omega) fun _ => ?_
        generalize hx : iA Z _ = x
        replace hx : iA Z k = x := hx
        have eG : groupOf n' Z k = x := by
          unfold groupOf
          rw [if_pos (by omega), hx]
        refine Ife.mk (fun hx0 => ?_) (fun hx0 => ?_)
        · replace hx0 : 0 < x := of_decide_eq_true (p := (0 : Int) < x) hx0
          refine Ife.mk (fun hx1 => ?_) (fun hx1 => ?_)
          · replace hx1 : 0 < mpGet (.int .i64 x) ml := of_decide_eq_true (p := (0 : Int) < mpGet (.int .i64 x) ml) hx1
            have hmem : x ∈ lg := (hm x).2.2.1 hx1
            have ho : skOut (fitsWith g b c L K) (groupOf n' Z) lg k = true := by
              unfold skOut
              rw [eG, decide_eq_true hx0, decide_eq_true hmem]
              rfl
            have hq := (hm (x)).2.1
            refine Need.mk (by show fitStd .i64 (mpGet (.int .i64 (x)) ml + 1); unfold fitStd; have := (hm (x)).1; omega) fun _ => ?_
            refine Need.mk (show na + 1 ≤ maxLen ∧ (na + 1) * 8 ≤ 140737488355328 by unfold maxLen; omega) fun _ => ?_
            refine Need.mk (by show fitStd .i64 ((k : Int) + 1); unfold fitStd; omega) fun _ => ?_
            refine ⟨⟨(k : Int) + 1, k + 1, lg ++ [x], lost ++ [(k : Int)], rest, mpSet (.int .i64 (x)) (mpGet (.int .i64 (x)) ml + 1) ml, na + 1, nb, by omega, by omega, ?hs, hm.put, by simp [hna], hnb⟩, [0, 1, 2, 3, 4, 11, 6], (by show n' - (k + 1) < n' - k; omega), ?st⟩
            case hs => rw [skip_succ, hs]; unfold skStep; rw [if_pos ho, eG]
            case st => refine ⟨rfl, by show List.Nodup [3, 4, 11, 6]; decide, ?_, ?_⟩ <;> repeat' (first | exact trivial | exact in_push hna | exact in_push hnb | exact rfl | apply And.intro | exact (fun _ _ _ _ => Cell.le_refl _) | (intro i hi; rfl) | (intro i hi; exact absurd hi (Nat.not_lt_zero _)))
          · replace hx1 : ¬ 0 < mpGet (.int .i64 x) ml := of_decide_eq_false (p := (0 : Int) < mpGet (.int .i64 x) ml) hx1
            have hmem : ¬ x ∈ lg := fun h => hx1 ((hm x).2.2.2 h)
            refine Need.mk (show n ≤ 1000000 by omega) fun _ => ?_
            refine Need.mk (IsMs.pre (L := L ++ [gM K k]) (IsMs.push (IsMs.msg (fr := false) hL) (by rw [← msgCl_old (fr := false)]; rfl)) hokp (by omega)).1 fun _ => ?_
            generalize hE : fitsM g b c _ = E
            replace hE : fitsWith g b c L K k = E := (congrArg (fitsM g b c) (IsMs.pre (L := L ++ [gM K k]) (IsMs.push (IsMs.msg (fr := false) hL) (by rw [← msgCl_old (fr := false)]; rfl)) hokp (by omega)).2.symm).trans hE
            refine Ife.mk (fun hf => ?_) (fun hf => ?_)
            · replace hf : E = false := by simpa [Arith.std] using hf
              have ho : skOut (fitsWith g b c L K) (groupOf n' Z) lg k = true := by
                unfold skOut
                rw [hE, hf]
                simp
              have hq := (hm (x)).2.1
              refine Need.mk (by show fitStd .i64 (mpGet (.int .i64 (x)) ml + 1); unfold fitStd; have := (hm (x)).1; omega) fun _ => ?_
              refine Need.mk (show na + 1 ≤ maxLen ∧ (na + 1) * 8 ≤ 140737488355328 by unfold maxLen; omega) fun _ => ?_
              refine Need.mk (by show fitStd .i64 ((k : Int) + 1); unfold fitStd; omega) fun _ => ?_
              refine ⟨⟨(k : Int) + 1, k + 1, lg ++ [x], lost ++ [(k : Int)], rest, mpSet (.int .i64 (x)) (mpGet (.int .i64 (x)) ml + 1) ml, na + 1, nb, by omega, by omega, ?hs, hm.put, by simp [hna], hnb⟩, [0, 1, 2, 3, 4, 15, 6], (by show n' - (k + 1) < n' - k; omega), ?st⟩
              case hs => rw [skip_succ, hs]; unfold skStep; rw [if_pos ho, eG]
              case st => refine ⟨rfl, by show List.Nodup [3, 4, 15, 6]; decide, ?_, ?_⟩ <;> repeat' (first | exact trivial | exact in_push hna | exact in_push hnb | exact rfl | apply And.intro | exact (fun _ _ _ _ => Cell.le_refl _) | (intro i hi; rfl) | (intro i hi; exact absurd hi (Nat.not_lt_zero _)))
            · replace hf : E = true := by simpa [Arith.std] using hf
              have ho : skOut (fitsWith g b c L K) (groupOf n' Z) lg k = false := by
                unfold skOut
                rw [hE, hf, eG]
                rw [decide_eq_false hmem]; simp
              refine Need.mk (show nb + 1 ≤ maxLen ∧ (nb + 1) * 8 ≤ 140737488355328 by unfold maxLen; omega) fun _ => ?_
              refine Need.mk (by show fitStd .i64 ((k : Int) + 1); unfold fitStd; omega) fun _ => ?_
              refine ⟨⟨(k : Int) + 1, k + 1, lg, lost, rest ++ [(k : Int)], ml, na, nb + 1, by omega, by omega, ?hs, hm.keep, hna, by simp [hnb]⟩, [0, 1, 2, 3, 4, 5, 15], (by show n' - (k + 1) < n' - k; omega), ?st⟩
              case hs => rw [skip_succ, hs]; unfold skStep; rw [if_neg (by rw [ho]; decide)]
              case st => refine ⟨rfl, by show List.Nodup [3, 4, 5, 15]; decide, ?_, ?_⟩ <;> repeat' (first | exact trivial | exact in_push hna | exact in_push hnb | exact rfl | apply And.intro | exact (fun _ _ _ _ => Cell.le_refl _) | (intro i hi; rfl) | (intro i hi; exact absurd hi (Nat.not_lt_zero _)))
        · replace hx0 : ¬ 0 < x := of_decide_eq_false (p := (0 : Int) < x) hx0
          refine Need.mk (show n ≤ 1000000 by omega) fun _ => ?_
          refine Need.mk (IsMs.pre (L := L ++ [gM K k]) (IsMs.push (IsMs.msg (fr := false) hL) (by rw [← msgCl_old (fr := false)]; rfl)) hokp (by omega)).1 fun _ => ?_
          generalize hE : fitsM g b c _ = E
          replace hE : fitsWith g b c L K k = E := (congrArg (fitsM g b c) (IsMs.pre (L := L ++ [gM K k]) (IsMs.push (IsMs.msg (fr := false) hL) (by rw [← msgCl_old (fr := false)]; rfl)) hokp (by omega)).2.symm).trans hE
          refine Ife.mk (fun hf => ?_) (fun hf => ?_)
          · replace hf : E = false := by simpa [Arith.std] using hf
            have ho : skOut (fitsWith g b c L K) (groupOf n' Z) lg k = true := by
              unfold skOut
              rw [hE, hf]
              simp
            have hq := (hm (x)).2.1
            refine Need.mk (by show fitStd .i64 (mpGet (.int .i64 (x)) ml + 1); unfold fitStd; have := (hm (x)).1; omega) fun _ => ?_
            refine Need.mk (show na + 1 ≤ maxLen ∧ (na + 1) * 8 ≤ 140737488355328 by unfold maxLen; omega) fun _ => ?_
            refine Need.mk (by show fitStd .i64 ((k : Int) + 1); unfold fitStd; omega) fun _ => ?_
            refine ⟨⟨(k : Int) + 1, k + 1, lg ++ [x], lost ++ [(k : Int)], rest, mpSet (.int .i64 (x)) (mpGet (.int .i64 (x)) ml + 1) ml, na + 1, nb, by omega, by omega, ?hs, hm.put, by simp [hna], hnb⟩, [0, 1, 2, 3, 4, 15, 6], (by show n' - (k + 1) < n' - k; omega), ?st⟩
            case hs => rw [skip_succ, hs]; unfold skStep; rw [if_pos ho, eG]
            case st => refine ⟨rfl, by show List.Nodup [3, 4, 15, 6]; decide, ?_, ?_⟩ <;> repeat' (first | exact trivial | exact in_push hna | exact in_push hnb | exact rfl | apply And.intro | exact (fun _ _ _ _ => Cell.le_refl _) | (intro i hi; rfl) | (intro i hi; exact absurd hi (Nat.not_lt_zero _)))
          · replace hf : E = true := by simpa [Arith.std] using hf
            have ho : skOut (fitsWith g b c L K) (groupOf n' Z) lg k = false := by
              unfold skOut
              rw [hE, hf, eG]
              rw [decide_eq_false hx0]; rfl
            refine Need.mk (show nb + 1 ≤ maxLen ∧ (nb + 1) * 8 ≤ 140737488355328 by unfold maxLen; omega) fun _ => ?_
            refine Need.mk (by show fitStd .i64 ((k : Int) + 1); unfold fitStd; omega) fun _ => ?_
            refine ⟨⟨(k : Int) + 1, k + 1, lg, lost, rest ++ [(k : Int)], ml, na, nb + 1, by omega, by omega, ?hs, hm.keep, hna, by simp [hnb]⟩, [0, 1, 2, 3, 4, 5, 15], (by show n' - (k + 1) < n' - k; omega), ?st⟩
            case hs => rw [skip_succ, hs]; unfold skStep; rw [if_neg (by rw [ho]; decide)]
            case st => refine ⟨rfl, by show List.Nodup [3, 4, 5, 15]; decide, ?_, ?_⟩ <;> repeat' (first | exact trivial | exact in_push hna | exact in_push hnb | exact rfl | apply And.intro | exact (fun _ _ _ _ => Cell.le_refl _) | (intro i hi; rfl) | (intro i hi; exact absurd hi (Nat.not_lt_zero _)))
      · replace hn : ¬ @Nat.cast Int instNatCastInt n2 = @Nat.cast Int instNatCastInt n' := of_decide_eq_false (p := (n2 : Int) = (n' : Int)) hn
        have eG : groupOf n' Z k = 0 := by
          unfold groupOf
          rw [if_neg (by omega)]
        refine Ife.no (show decide ((0 : Int) < 0) = false by decide) ?_
        refine Need.mk (show n ≤ 1000000 by omega) fun _ => ?_
        refine Need.mk (IsMs.pre (L := L ++ [gM K k]) (IsMs.push (IsMs.msg (fr := false) hL) (by rw [← msgCl_old (fr := false)]; rfl)) hokp (by omega)).1 fun _ => ?_
        generalize hE : fitsM g b c _ = E
        replace hE : fitsWith g b c L K k = E := (congrArg (fitsM g b c) (IsMs.pre (L := L ++ [gM K k]) (IsMs.push (IsMs.msg (fr := false) hL) (by rw [← msgCl_old (fr := false)]; rfl)) hokp (by omega)).2.symm).trans hE
        refine Ife.mk (fun hf => ?_) (fun hf => ?_)
        · replace hf : E = false := by simpa [Arith.std] using hf
          have ho : skOut (fitsWith g b c L K) (groupOf n' Z) lg k = true := by
            unfold skOut
            rw [hE, hf]
            simp
          have hq := (hm (0)).2.1
          refine Need.mk (by show fitStd .i64 (mpGet (.int .i64 (0)) ml + 1); unfold fitStd; have := (hm (0)).1; omega) fun _ => ?_
          refine Need.mk (show na + 1 ≤ maxLen ∧ (na + 1) * 8 ≤ 140737488355328 by unfold maxLen; omega) fun _ => ?_
          refine Need.mk (by show fitStd .i64 ((k : Int) + 1); unfold fitStd; omega) fun _ => ?_
          refine ⟨⟨(k : Int) + 1, k + 1, lg ++ [0], lost ++ [(k : Int)], rest, mpSet (.int .i64 (0)) (mpGet (.int .i64 (0)) ml + 1) ml, na + 1, nb, by omega, by omega, ?hs, hm.put, by simp [hna], hnb⟩, [0, 1, 2, 3, 4, 15, 6], (by show n' - (k + 1) < n' - k; omega), ?st⟩
          case hs => rw [skip_succ, hs]; unfold skStep; rw [if_pos ho, eG]
          case st => refine ⟨rfl, by show List.Nodup [3, 4, 15, 6]; decide, ?_, ?_⟩ <;> repeat' (first | exact trivial | exact in_push hna | exact in_push hnb | exact rfl | apply And.intro | exact (fun _ _ _ _ => Cell.le_refl _) | (intro i hi; rfl) | (intro i hi; exact absurd hi (Nat.not_lt_zero _)))
        · replace hf : E = true := by simpa [Arith.std] using hf
          have ho : skOut (fitsWith g b c L K) (groupOf n' Z) lg k = false := by
            unfold skOut
            rw [hE, hf, eG]
            rw [decide_eq_false (by decide : ¬ (0 : Int) < 0)]; rfl
          refine Need.mk (show nb + 1 ≤ maxLen ∧ (nb + 1) * 8 ≤ 140737488355328 by unfold maxLen; omega) fun _ => ?_
          refine Need.mk (by show fitStd .i64 ((k : Int) + 1); unfold fitStd; omega) fun _ => ?_
          refine ⟨⟨(k : Int) + 1, k + 1, lg, lost, rest ++ [(k : Int)], ml, na, nb + 1, by omega, by omega, ?hs, hm.keep, hna, by simp [hnb]⟩, [0, 1, 2, 3, 4, 5, 15], (by show n' - (k + 1) < n' - k; omega), ?st⟩
          case hs => rw [skip_succ, hs]; unfold skStep; rw [if_neg (by rw [ho]; decide)]
          case st => refine ⟨rfl, by show List.Nodup [3, 4, 5, 15]; decide, ?_, ?_⟩ <;> repeat' (first | exact trivial | exact in_push hna | exact in_push hnb | exact rfl | apply And.intro | exact (fun _ _ _ _ => Cell.le_refl _) | (intro i hi; rfl) | (intro i hi; exact absurd hi (Nat.not_lt_zero _)))
    · replace hlt : ¬ (k : Int) < @Nat.cast Int instNatCastInt n' := of_decide_eq_false (p := (k : Int) < (n' : Int)) hlt
      have hkn : k = n' := by omega
      subst hkn
      rw [hs]
      exact ⟨[0, 1, 2, 5, 6], ⟨rfl, by repeat' (first | exact trivial | exact rfl | apply And.intro | exact (fun _ _ _ _ => Cell.le_refl _) | (intro i hi; rfl) | (intro i hi; exact absurd hi (Nat.not_lt_zero _))), by show List.Nodup [5, 6]; decide, rfl, by repeat' (first | exact trivial | exact hna | exact hnb | exact rfl | apply And.intro | exact (fun _ _ _ _ => Cell.le_refl _) | (intro i hi; rfl) | (intro i hi; exact absurd hi (Nat.not_lt_zero _)))⟩⟩

end Go.Proofs.Ythomoliklfmnkaa.Vx
end

section
/- Transactions filled one after the other, plainly. -/
namespace Go.Proofs.Ythomoliklfmnkaa.Vx
open Go.RowKit
set_option linter.unusedVariables false
set_option linter.unusedSimpArgs false
/-- The rest of the places, into transactions: those that are full, the one under way and its messages. -/
def rgo (F : List PMsg → Bool) (m : Int → PMsg) : List (List Int) → List Int → List PMsg → List Int → List (List Int)
  | T, now, _, [] => if now = [] then T else T ++ [now]
  | T, now, cur, r :: rs => if now ≠ [] ∧ F (cur ++ [m r]) = false then rgo F m (T ++ [now]) [r] [m r] rs else rgo F m T (now ++ [r]) (cur ++ [m r]) rs
theorem rgo_end {F : List PMsg → Bool} {m : Int → PMsg} {T : List (List Int)} {now : List Int} {cur : List PMsg} (h : now ≠ []) : rgo F m T now cur [] = rgo F m (T ++ [now]) [] [] [] := by
  simp [rgo, h]
theorem rgo_full {F : List PMsg → Bool} {m : Int → PMsg} {T : List (List Int)} {now : List Int} {cur : List PMsg} {r : Int} {rs : List Int} (h : now ≠ []) (hf : F (cur ++ [m r]) = false) : rgo F m T now cur (r :: rs) = rgo F m (T ++ [now]) [] [] (r :: rs) := by
  simp [rgo, h, hf]
theorem rgo_take {F : List PMsg → Bool} {m : Int → PMsg} {T : List (List Int)} {now : List Int} {cur : List PMsg} {r : Int} {rs : List Int} (hf : F (cur ++ [m r]) = true) : rgo F m T now cur (r :: rs) = rgo F m T (now ++ [r]) (cur ++ [m r]) rs := by
  simp [rgo, hf]
theorem rgo_nil {F : List PMsg → Bool} {m : Int → PMsg} {T : List (List Int)} {cur : List PMsg} : rgo F m T [] cur [] = T := by simp [rgo]
def placeM (M : List PMsg) (i : Int) : PMsg := gM M i.toNat
def skOf (g b c : Int) (U M : List PMsg) (gs : List Int) : Sk := skip (fitsWith g b c U M) (groupOf M.length gs) M.length
def cutT (g b c : Int) (U M : List PMsg) (gs : List Int) : List (List Int) := rgo (fitsM g b c) (placeM M) [] [] U (skOf g b c U M gs).rest
theorem skip_rest {F : Nat → Bool} {G : Nat → Int} : ∀ (n : Nat) (r : Int), r ∈ (skip F G n).rest → ∃ i : Nat, r = (i : Int) ∧ i < n ∧ F i = true
  | 0, r, h => by simp [skip] at h
  | n + 1, r, h => by
    rw [skip_succ] at h
    unfold skStep at h
    split at h
    · obtain ⟨i, h1, h2, h3⟩ := skip_rest n r h
      exact ⟨i, h1, by omega, h3⟩
    · rename_i ho
      rcases List.mem_append.1 h with h | h
      · obtain ⟨i, h1, h2, h3⟩ := skip_rest n r h
        exact ⟨i, h1, by omega, h3⟩
      · refine ⟨n, List.mem_singleton.1 h, by omega, ?_⟩
        unfold skOut at ho
        cases hF : F n
        · rw [hF] at ho; simp at ho
        · rfl
theorem fits_all {g b c : Int} {L : List PMsg} (h : fitsM g b c L = true) : L.all mayM = true ∧ ((L.length : Int) ≤ c ∧ L.length ≤ 64) ∧ (((txB L).length : Int) ≤ b ∧ (txB L).length ≤ 1048576) ∧ totalM L ≤ g := by
  unfold fitsM at h
  simp only [Bool.and_eq_true, decide_eq_true_iff] at h
  exact h
theorem fits_of {g b c : Int} {L : List PMsg} (h1 : L.all mayM = true) (h2 : (L.length : Int) ≤ c ∧ L.length ≤ 64) (h3 : ((txB L).length : Int) ≤ b ∧ (txB L).length ≤ 1048576) (h4 : totalM L ≤ g) : fitsM g b c L = true := by
  unfold fitsM
  simp only [Bool.and_eq_true, decide_eq_true_iff]
  exact ⟨h1, h2, h3, h4⟩
/-- What fits behind messages fits alone. -/
theorem fits_right {g b c : Int} {U : List PMsg} {m : PMsg} (ho : ∀ x ∈ U, MsgOk x) (h : fitsM g b c (U ++ [m]) = true) : fitsM g b c [m] = true := by
  obtain ⟨h1, h2, h3, h4⟩ := fits_all h
  have ht := total_rng ho
  have e1 : totalM (U ++ [m]) = totalM U + totalM [m] := by simp [totalM]
  have e2 : (txB [m]).length ≤ (txB (U ++ [m])).length := by
    unfold txB
    have a := Leb.put_len (((U ++ [m]).length : Nat) : Int) (by omega) (by have := h2.2; omega)
    have b : (Leb.put (([m].length : Nat) : Int)).length = 1 := by
      show (Leb.put 1).length = 1
      decide
    have d : (flatE (fun m => textB (msgB m)) (U ++ [m])).length = (flatE (fun m => textB (msgB m)) U).length + (flatE (fun m => textB (msgB m)) [m]).length := by
      unfold flatE
      simp
    rw [List.length_append, List.length_append, d, b]
    omega
  have e3 : [m].length ≤ (U ++ [m]).length := by simp
  rw [List.all_append, Bool.and_eq_true] at h1
  exact fits_of h1.2 ⟨by have := h2.1; omega, by simp⟩ ⟨by have := h3.1; omega, by have := h3.2; omega⟩ (by omega)
theorem drop_cons {l : List Int} {k : Nat} (h : k < l.length) : l.drop k = iA l k :: l.drop (k + 1) := by
  rw [List.drop_eq_getElem_cons h]
  congr 1
  simp [iA, List.getD, h]
theorem iA_mem {l : List Int} {k : Nat} (h : k < l.length) : iA l k ∈ l := by
  have : iA l k = l[k] := by simp [iA, List.getD, h]
  rw [this]; exact List.getElem_mem h
end Go.Proofs.Ythomoliklfmnkaa.Vx
end

section
/- Messages into transactions: batch.Cut, by the walker. -/
namespace Go.Proofs.Ythomoliklfmnkaa.Vx
open Go.RowKit
set_option linter.unusedVariables false
set_option linter.unusedSimpArgs false
def oneM (L : List PMsg) : List PMsg := L.take 1
def txG (T : List (List Int)) (i j : Nat) : Cell := .es true 3 1 (T.getD i []).length (inG (T.getD i []))
theorem es_le {fr : Bool} {ty sz n n' : Nat} {g g' : Nat → List CV} (hn : n = n') (h : ∀ i, i < n → g i = g' i) : Cell.le (.es fr ty sz n g) (.es fr ty sz n' g') := by
  subst hn
  rintro W D u ⟨a, cap, h1, h2, h3⟩
  refine ⟨a, cap, h1, h2, fun h0 => ?_⟩
  obtain ⟨b, o, h4, h5, h6⟩ := h3 h0
  refine ⟨b, o, h4, h5, fun i hi => ?_⟩
  rw [← h i hi]
  exact h6 i hi
theorem txG_push {T : List (List Int)} {na n : Nat} {x : List Int} {gx : Nat → List CV} (hna : na = T.length) (hn : n = x.length) (hx : ∀ i, i < n → gx i = inG x i) : ∀ i j, i < na + 1 → j < 1 → Cell.le (pushC na (txG T) [.es true 3 1 n gx] i j) (txG (T ++ [x]) i j) := fun i j hi hj => by
  subst hna
  have hj0 : j = 0 := by omega
  subst hj0
  unfold pushC
  cases hb : Nat.blt i T.length with
  | true =>
    rw [Nat.blt_eq] at hb
    show Cell.le (txG T i 0) _
    unfold txG
    rw [List.getD_eq_getElem?_getD, List.getD_eq_getElem?_getD, List.getElem?_append_left hb]
    exact Cell.le_refl _
  | false =>
    have hb : ¬ i < T.length := fun h => by rw [← Nat.blt_eq, hb] at h; cases h
    have hi : i = T.length := by omega
    subst hi
    show Cell.le (.es true 3 1 n gx) _
    unfold txG
    rw [List.getD_eq_getElem?_getD, List.getElem?_append_right (Nat.le_refl _)]
    simp only [Nat.sub_self, List.getElem?_cons_zero, Option.getD_some]
    exact es_le hn hx
theorem IsMs.take {L : List PMsg} {n n0 : Nat} (hL : L.length = n) (h : n0 ≤ n) : IsMs n0 (fun i => msgG false L (0 + i)) (L.take n0) := by
  refine ⟨by rw [List.length_take]; omega, fun i j hi hj => ?_⟩
  show (msgG false L (0 + i) j).old = _
  rw [Nat.zero_add, msgG_old]
  refine msgG_gM ?_
  unfold gM
  rw [List.getD_eq_getElem?_getD, List.getD_eq_getElem?_getD, List.getElem?_take, if_pos hi]
theorem inG_drop {R : List Int} {k : Nat} : (fun i => inG R (k + i)) = inG (R.drop k) := by
  funext i
  unfold inG inGP iA
  rw [List.getD_eq_getElem?_getD, List.getD_eq_getElem?_getD, List.getElem?_drop]
theorem pushC_le {fr : Bool} {p : List PMsg} {n : Nat} {x : PMsg} {ls : List Cell} (hn : p.length = n) (hl : ls = msgCl fr x) : ∀ i j, i < n + 1 → j < 50 → Cell.le (pushC n (msgG fr p) ls i j) (msgG fr (p ++ [x]) i j) := fun i j hi hj => by
  subst hn
  subst hl
  unfold pushC
  cases hb : Nat.blt i p.length with
  | true =>
    rw [Nat.blt_eq] at hb
    show Cell.le (msgG fr p i j) _
    rw [msgG_gM (gM_app_lt hb).symm]
    exact Cell.le_refl _
  | false =>
    have hb : ¬ i < p.length := fun h => by rw [← Nat.blt_eq, hb] at h; cases h
    have hi : i = p.length := by omega
    subst hi
    have e0 : gM (p ++ [x]) p.length = x := by
      rw [gM_app_ge (Nat.le_refl _), Nat.sub_self]
      rfl
    show Cell.le ((msgCl fr x).getD j (.pl .tt)) _
    simp only [msgG_eq]
    rw [e0]
    exact Cell.le_refl _
theorem in_take {R : List Int} {k : Nat} {i : Nat} (h : i < k) : inG R (0 + i) = inG (R.take k) i := by
  unfold inG inGP iA
  rw [Nat.zero_add, List.getD_eq_getElem?_getD, List.getD_eq_getElem?_getD, List.getElem?_take, if_pos h]
theorem takeI_ne {l : List Int} {k : Nat} (h1 : 1 ≤ k) (h2 : k ≤ l.length) : l.take k ≠ [] := fun h => by
  have := congrArg List.length h
  rw [List.length_take, List.length_nil] at this
  omega
theorem take_snoc {l : List Int} {k : Nat} (h : k < l.length) : l.take (k + 1) = l.take k ++ [iA l k] := by
  rw [List.take_succ_eq_append_getElem h]
  congr 2
  simp [iA, List.getD, h]
/-- Full transactions; what is left. -/
structure LOut (F : List PMsg → Bool) (m : Int → PMsg) (U : List PMsg) (R : List Int) where
  out : List (List Int)
  na : Nat
  RS : List Int
  cnt : Nat
  nu : Nat
  UU : List PMsg
  hc : cnt = RS.length
  hna : na = out.length
  hlo : na + cnt ≤ R.length
  hnu : UU.length = nu
  hn1 : nu ≤ 1
  heq : rgo F m [] [] U R = rgo F m out [] UU RS
  hok : ∀ x ∈ UU, MsgOk x
  hf : ∀ r ∈ RS, F (UU ++ [m r]) = true
  hs : ∀ r ∈ RS, r ∈ R
/-- The transaction under way: k places, its messages. -/
structure LInn (F : List PMsg → Bool) (m : Int → PMsg) (U : List PMsg) (R : List Int) (out : List (List Int)) (RS : List Int) (cnt nu : Nat) (UU : List PMsg) where
  k : Nat
  TX : List PMsg
  nt : Nat
  hk : k ≤ cnt
  ht : TX.length = nt
  hn : nt = nu + k
  heq : rgo F m [] [] U R = rgo F m out (RS.take k) TX (RS.drop k)
  hok : ∀ x ∈ TX, MsgOk x
  h0 : k = 0 → TX = UU
def sCut : SpecF
  | [.agg [.int .i64 g, .int .i64 b, .int .i64 c], .c (.row 0), .c (.row 1), .c (.row 2)], [.data false ty sz n get, .data false ty' sz' n' get', .elems it one n2 get2] => some (msgsPre ty sz n get ∧ msgsPre ty' sz' n' get' ∧ inPre it one n2 get2 ∧ skPre n n', .tup [(some (.row 3), []), (some (.row 4), [])], [.dead, .dead, .dead, .data true 39 1 (cutT g b c (oneM (msgsL n get)) (msgsL n' get') (iL n2 get2)).length (txG (cutT g b c (oneM (msgsL n get)) (msgsL n' get') (iL n2 get2))), .row 3 1 (skOf g b c (oneM (msgsL n get)) (msgsL n' get') (iL n2 get2)).lost.length (inG (skOf g b c (oneM (msgsL n get)) (msgsL n' get') (iL n2 get2)).lost)])
  | _, _ => none

set_option maxRecDepth 100000 in
set_option maxHeartbeats 32000000 in
theorem cutP : Fn Try.prog 16 [] [(60, 250), (60, 250), (3, 1)] sCut := by
  have hC : CtsOk Try.prog [(34, appFn [] [(60, 250), (60, 250), (3, 1)] sSkip), (35, appJoin), (20, appFn [] [(60, 250)] sFits)] := CtsOk.cons (Fn.ct skipP) <| CtsOk.cons (joinCt) <| CtsOk.cons (Fn.ct fitsP) <| CtsOk.nil _
  refine Fn.ofZ (E := tbB) [] 0 [(8, [(0, true), (1, true), (2, true), (3, true), (4, true), (5, true), (6, true), (7, true), (8, true), (9, true), (10, true), (11, true), (12, true), (13, false), (14, false), (15, false), (16, false), (17, true)])] tbB_ok hC (by kernel_rfl) Try.func16 rfl rfl rfl (by kernel_rfl) (by kernel_rfl) 3 (.orow 39 1 0 (txG [])) rfl ?_ ?_
  · intro args h pre r h' hs
    unfold sCut at hs
    split at hs
    · cases hs; exact ⟨rfl, rfl, Nat.le_of_ble_eq_true rfl⟩
    · cases hs
  · intro args h pre r h' hs hp
    unfold sCut at hs
    split at hs
    rotate_left
    · cases hs
    rename_i g b c ty sz n get ty' sz' n' get' it one n2 get2
    cases hs
    obtain ⟨⟨rfl, rfl, hst, hok, hm⟩, ⟨rfl, rfl, hst', hok', hm'⟩, ⟨rfl, rfl, hin, hi2⟩, hn1, hn2⟩ := hp
    refine ⟨[.data false 60 50 n (msgG false (msgsL n get)), .data false 60 50 n' (msgG false (msgsL n' get')), .elems 3 1 n2 (inG (iL n2 get2))], ⟨⟨rfl, rfl, rfl, rfl, fun i j hi hj => by rw [hst i j hi hj]; exact Cell.le_refl _⟩, ⟨rfl, rfl, rfl, rfl, fun i j hi hj => by rw [hst' i j hi hj]; exact Cell.le_refl _⟩, ⟨rfl, rfl, rfl, fun i hi => by rw [← hin.eq hi]⟩, trivial⟩, ?_⟩
    have hL : (msgsL n get).length = n := msgsL_len
    have hL' : (msgsL n' get').length = n' := msgsL_len
    have hZ : (iL n2 get2).length = n2 := iL_len
    generalize msgsL n get = L at *
    generalize msgsL n' get' = K at *
    generalize iL n2 get2 = Z at *
    clear hst hst' hin
    have ho := gM_all hok zeroMsg_ok
    have ho' := gM_all hok' zeroMsg_ok
    unfold sSkip sFits
    generalize hg0 : (List.length : List UInt8 → Nat) = g0
    generalize hg1 : (List.length : List Int → Nat) = g1
    generalize hL : lft Try.prog _ = L
    try unfold leafG
    try unfold msgCl
    try unfold msgG
    try unfold msgC
    try unfold inG
    generalize ho0 : @lK = zo0, ho1 : @lV = zo1, ho2 : @lI = zo2, ho3 : @lP = zo3, ho4 : @lN = zo4, ho5 : @pG = zo5, ho6 : @rN = zo6, ho7 : @lenL = zo7, ho8 : @gM = zo8, ho9 : @msgsL = zo9, ho10 : @msgsPre = zo10, ho11 : @fitsM = zo11, ho12 : @skip = zo12, ho13 : @skPre = zo13, ho14 : @groupOf = zo14, ho15 : @iA = zo15, ho16 : @iL = zo16, ho17 : @catC = zo17, ho18 : @pushC = zo18, ho19 : @inPre = zo19, ho20 : @rgo = zo20, ho21 : @placeM = zo21, ho22 : @skOf = zo22, ho23 : @cutT = zo23, ho24 : @txG = zo24, ho25 : @oneM = zo25
    generalize hA : Arith.std = A
    cbv
    subst hA hg0 hg1 hL ho0 ho1 ho2 ho3 ho4 ho5 ho6 ho7 ho8 ho9 ho10 ho11 ho12 ho13 ho14 ho15 ho16 ho17 ho18 ho19 ho20 ho21 ho22 ho23 ho24 ho25
    try simp only [← mpGet.eq_def, ← mpSet.eq_def]
    refine Need.mk (show (0 : Int) ≤ 0 ∧ (0 : Int) ≤ min (n : Int) 1 ∧ min (n : Int) 1 ≤ (n : Int) by omega) fun _ => ?_
    have hn0 : (min (n : Int) 1 - 0).toNat ≤ n ∧ (min (n : Int) 1 - 0).toNat ≤ 1 := by omega
    have hU := IsMs.take hL hn0.1
    have hU1 : L.take (min (n : Int) 1 - 0).toNat = L.take 1 := by
      rcases (by omega : n = 0 ∨ (min (n : Int) 1 - 0).toNat = 1) with h | h
      · have : L = [] := List.eq_nil_of_length_eq_zero (by omega)
        rw [this]; simp
      · rw [h]
    rw [hU1] at hU
    obtain ⟨U, hUd⟩ : ∃ U, U = L.take 1 := ⟨_, rfl⟩
    rw [← hUd] at hU
    rw [show oneM L = U from hUd.symm]
    have hokU : ∀ x ∈ U, MsgOk x := fun x hx => hok x (List.mem_of_mem_take (hUd ▸ hx))
    have pU := IsMs.pre hU hokU (by omega)
    have pK := IsMs.pre (IsMs.msg (fr := false) hL') hok' (by omega)
    have eZ : iL n2 (inG Z) = Z := by rw [← hZ]; exact iL_inG Z
    refine Need.mk ⟨pU.1, pK.1, ⟨rfl, rfl, inAt_inG _ _, hi2⟩, by show (min (n : Int) 1 - 0).toNat ≤ 70 ∧ n' ≤ 70; omega⟩ fun _ => ?_
    generalize hS : skip _ _ n' = S
    replace hS : skOf g b c U K Z = S := Eq.trans (by unfold skOf; rw [hL']; exact congr (congr (congrArg skip (congr (congrArg (fitsWith g b c) pU.2.symm) pK.2.symm)) (congrArg (groupOf n') eZ.symm)) rfl) hS
    have hR : ∀ r ∈ S.rest, ∃ i : Nat, r = (i : Int) ∧ i < n' ∧ fitsWith g b c U K i = true := fun r hr => by
      rw [← hS] at hr
      obtain ⟨i, h1, h2, h3⟩ := skip_rest _ _ hr
      exact ⟨i, h1, by omega, h3⟩
    have hSl := skip_len (F := fitsWith g b c U K) (G := groupOf K.length Z) K.length
    rw [show skip (fitsWith g b c U K) (groupOf K.length Z) K.length = S from hS] at hSl
    rw [hS]
    have hCT : cutT g b c U K Z = rgo (fitsM g b c) (placeM K) [] [] U S.rest := by unfold cutT; rw [hS]
    rw [hCT]
    have hUl : U.length = (min (n : Int) 1 - 0).toNat := hU.1
    have hfU : ∀ r ∈ S.rest, fitsM g b c (U ++ [placeM K r]) = true := fun r hr => by
      obtain ⟨i, rfl, h2, h3⟩ := hR r hr
      exact h3
    show Runs Try.prog 3 (.loop _) _ _
    refine loop_ruleE (N := env (lft Try.prog 3) 0 .std tbB [(34, appFn [] [(60, 250), (60, 250), (3, 1)] sSkip), (35, appJoin), (20, appFn [] [(60, 250)] sFits)] [(8, [(0, true), (1, true), (2, true), (3, true), (4, true), (5, true), (6, true), (7, true), (8, true), (9, true), (10, true), (11, true), (12, true), (13, false), (14, false), (15, false), (16, false), (17, true)])]) rfl tbB_ok hC (fun c st K _ h => h) (by kernel_rfl) [] (X := LOut (fitsM g b c) (placeM K) U S.rest)
      (S := fun x => ⟨[.any, .c (.row 7), .c (.row 1), .any, .c (.ptr 3 0), .any, .any, .any, .any, .any, .c (.row 4), .c (.row 5), .c (.row 6)] ++ List.replicate 62 .any, [.data false 60 50 n (msgG false L), .data false 60 50 n' (msgG false K), .elems 3 1 n2 (inG Z), .cells 37 [.int .i64 g, .int .i64 b, .int .i64 c], .row 3 1 S.lost.length (inG S.lost), .elems 3 1 x.cnt (inG x.RS), .orow 39 1 x.na (txG x.out), .data false 60 50 x.nu (msgG false x.UU)]⟩) (μ := fun x => x.cnt) ⟨[], 0, S.rest, S.rest.length, U.length, U, rfl, rfl, by omega, rfl, by omega, rfl, hokU, ?hf, fun r hr => hr⟩ (by kernel_rfl) ?h0 ?rd
    case hf => exact hfU
    case h0 =>
      have hUe : ∀ i j, i < U.length → j < 50 → Cell.le (msgG false L (0 + i) j) (msgG false U i j) := fun i j hi hj => by
        have h := hU.2 i j (by omega) hj
        rw [show (msgG false L (0 + i) j).old = msgG false L (0 + i) j from msgG_old] at h
        show Cell.le (msgG false L (0 + i) j) _
        rw [h]
        exact Cell.le_refl _
      exact StT.trans (StT.frz [8] trivial) (StT.trans (StT.part (d := 1) rfl rfl) (StT.trans (StT.nil (d := 12) (.orow 39 1 0 (txG [])) rfl rfl) (StT.ofL (σ := [0, 1, 2, 3, 7, 8, 10, 9]) ⟨rfl, by show List.Nodup [3, 7, 10]; decide, by repeat' (first | exact trivial | exact hUl.symm | exact hUe | exact hcat | exact rfl | apply And.intro | exact (fun _ _ _ _ => Cell.le_refl _) | (intro i hi; rfl) | (intro i hi; exact absurd hi (Nat.not_lt_zero _))), by repeat' (first | exact trivial | exact hUl.symm | exact hUe | exact hcat | exact rfl | apply And.intro | exact (fun _ _ _ _ => Cell.le_refl _) | (intro i hi; rfl) | (intro i hi; exact absurd hi (Nat.not_lt_zero _)))⟩)))
    rintro ⟨out, na, RS, cnt, nu, UU, hc, hna, hlo, hnu, hn1, heq, hokUU, hf, hsub⟩
    unfold sSkip sFits
    generalize hg0 : (List.length : List UInt8 → Nat) = g0
    generalize hg1 : (List.length : List Int → Nat) = g1
    generalize hL : lft Try.prog _ = L
    try dsimp only
    try unfold leafG
    try unfold msgCl
    try unfold msgG
    try unfold msgC
    try unfold inG
    generalize ho0 : @lK = zo0, ho1 : @lV = zo1, ho2 : @lI = zo2, ho3 : @lP = zo3, ho4 : @lN = zo4, ho5 : @pG = zo5, ho6 : @rN = zo6, ho7 : @lenL = zo7, ho8 : @gM = zo8, ho9 : @msgsL = zo9, ho10 : @msgsPre = zo10, ho11 : @fitsM = zo11, ho12 : @skip = zo12, ho13 : @skPre = zo13, ho14 : @groupOf = zo14, ho15 : @iA = zo15, ho16 : @iL = zo16, ho17 : @catC = zo17, ho18 : @pushC = zo18, ho19 : @inPre = zo19, ho20 : @rgo = zo20, ho21 : @placeM = zo21, ho22 : @skOf = zo22, ho23 : @cutT = zo23, ho24 : @txG = zo24, ho25 : @oneM = zo25
    generalize hA : Arith.std = A
    cbv
    subst hA hg0 hg1 hL ho0 ho1 ho2 ho3 ho4 ho5 ho6 ho7 ho8 ho9 ho10 ho11 ho12 ho13 ho14 ho15 ho16 ho17 ho18 ho19 ho20 ho21 ho22 ho23 ho24 ho25
    try simp only [← mpGet.eq_def, ← mpSet.eq_def]
    refine Ife.mk (fun h => ?_) (fun h => ?_)
    rotate_left
    · replace h : ¬ (0 : Int) < @Nat.cast Int instNatCastInt cnt := of_decide_eq_false (p := (0 : Int) < (cnt : Int)) h
      have hRS : RS = [] := List.eq_nil_of_length_eq_zero (by omega)
      subst hRS
      rw [heq, rgo_nil]
      exact ⟨[6], [0, 1, 2, 6, 4], ⟨⟨fun i j _ _ => rfl, trivial⟩, rfl, by repeat' (first | exact trivial | exact rfl | apply And.intro | exact (fun _ _ _ _ => Cell.le_refl _) | (intro i hi; rfl) | (intro i hi; exact absurd hi (Nat.not_lt_zero _))), by show List.Nodup [4]; decide, rfl, by repeat' (first | exact trivial | exact hrow | exact hlen | exact hget | exact hna | exact rfl | apply And.intro | exact (fun _ _ _ _ => Cell.le_refl _) | (intro i hi; rfl) | (intro i hi; exact absurd hi (Nat.not_lt_zero _)))⟩⟩
    replace h : (0 : Int) < @Nat.cast Int instNatCastInt cnt := of_decide_eq_true (p := (0 : Int) < (cnt : Int)) h
    have hcnt1 : 1 ≤ cnt := Int.natCast_pos.1 h
    refine Need.mk (show nu ≤ 1000000 by omega) fun _ => ?_
    show Runs Try.prog 3 (.loop _) _ _
    refine loop_ruleE (N := env (lft Try.prog 3) 0 .std tbB [(34, appFn [] [(60, 250), (60, 250), (3, 1)] sSkip), (35, appJoin), (20, appFn [] [(60, 250)] sFits)] [(8, [(0, true), (1, true), (2, true), (3, true), (4, true), (5, true), (6, true), (7, true), (8, true), (9, true), (10, true), (11, true), (12, true), (13, false), (14, false), (15, false), (16, false), (17, true)])]) rfl tbB_ok hC (fun c st K _ h => h) (by kernel_rfl) [] (X := LInn (fitsM g b c) (placeM K) U S.rest out RS cnt nu UU)
      (S := fun x => ⟨[.any, .c (.val (.slice none 0 0)), .c (.row 1), .any, .c (.ptr 3 0), .any, .any, .any, .any, .any, .c (.row 4), .c (.row 5), .c (.row 6), .c (.row 7), .c (.int .i64 (x.k : Int))] ++ List.replicate 60 .any, [.data false 60 50 n (msgG false L), .data false 60 50 n' (msgG false K), .elems 3 1 n2 (inG Z), .cells 37 [.int .i64 g, .int .i64 b, .int .i64 c], .row 3 1 S.lost.length (inG S.lost), .elems 3 1 cnt (inG RS), .orow 39 1 na (txG out), .orow 60 50 x.nt (msgG false x.TX)]⟩) (μ := fun x => cnt - x.k) ⟨0, UU, nu, by omega, hnu, by omega, heq, hokUU, fun _ => rfl⟩ (by kernel_rfl) ?i0 ?ird
    case i0 =>
      have hcat : ∀ i j, i < nu → j < 50 → Cell.le (catC nu (msgG false UU) (fun _ _ => Cell.pl .tt) i j) (msgG false UU i j) := fun i j hi _ => by
        rw [catC_lt hi]
        exact Cell.le_refl _
      exact StT.ofL (σ := [0, 1, 2, 3, 4, 5, 6, 10]) ⟨rfl, by show List.Nodup [3, 4, 6, 10]; decide, by repeat' (first | exact trivial | exact hUl.symm | exact hUe | exact hcat | exact rfl | apply And.intro | exact (fun _ _ _ _ => Cell.le_refl _) | (intro i hi; rfl) | (intro i hi; exact absurd hi (Nat.not_lt_zero _))), by repeat' (first | exact trivial | exact hUl.symm | exact hUe | exact hcat | exact rfl | apply And.intro | exact (fun _ _ _ _ => Cell.le_refl _) | (intro i hi; rfl) | (intro i hi; exact absurd hi (Nat.not_lt_zero _)))⟩
    rintro ⟨k, TX, nt, hk, ht, hn, heqI, hokT, h0T⟩
    unfold sSkip sFits
    generalize hg0 : (List.length : List UInt8 → Nat) = g0
    generalize hg1 : (List.length : List Int → Nat) = g1
    generalize hL : lft Try.prog _ = L
    try dsimp only
    try unfold leafG
    try unfold msgCl
    try unfold msgG
    try unfold msgC
    try unfold inG
    generalize ho0 : @lK = zo0, ho1 : @lV = zo1, ho2 : @lI = zo2, ho3 : @lP = zo3, ho4 : @lN = zo4, ho5 : @pG = zo5, ho6 : @rN = zo6, ho7 : @lenL = zo7, ho8 : @gM = zo8, ho9 : @msgsL = zo9, ho10 : @msgsPre = zo10, ho11 : @fitsM = zo11, ho12 : @skip = zo12, ho13 : @skPre = zo13, ho14 : @groupOf = zo14, ho15 : @iA = zo15, ho16 : @iL = zo16, ho17 : @catC = zo17, ho18 : @pushC = zo18, ho19 : @inPre = zo19, ho20 : @rgo = zo20, ho21 : @placeM = zo21, ho22 : @skOf = zo22, ho23 : @cutT = zo23, ho24 : @txG = zo24, ho25 : @oneM = zo25
    generalize hA : Arith.std = A
    cbv
    subst hA hg0 hg1 hL ho0 ho1 ho2 ho3 ho4 ho5 ho6 ho7 ho8 ho9 ho10 ho11 ho12 ho13 ho14 ho15 ho16 ho17 ho18 ho19 ho20 ho21 ho22 ho23 ho24 ho25
    try simp only [← mpGet.eq_def, ← mpSet.eq_def]
    refine Ife.mk (fun hlt => ?_) (fun hlt => ?_)
    rotate_left
    · replace hlt : ¬ (k : Int) < @Nat.cast Int instNatCastInt cnt := of_decide_eq_false (p := (k : Int) < (cnt : Int)) hlt
      have hkc : k = cnt := by omega
      have hk1 : 1 ≤ k := hkc ▸ hcnt1
      have heqX : rgo (fitsM g b c) (placeM K) [] [] U S.rest = rgo (fitsM g b c) (placeM K) (out ++ [RS.take k]) [] [] (RS.drop k) := by
        have e : RS.drop k = [] := List.drop_eq_nil_of_le (by omega)
        rw [heqI, e]
        exact rgo_end (takeI_ne hk1 (by omega))
      refine Need.mk (show (0 : Int) ≤ 0 ∧ (0 : Int) ≤ (k : Int) ∧ (k : Int) ≤ (cnt : Int) by omega) fun _ => ?_
      refine Need.mk ⟨(by show 0 + ((k : Int) - 0).toNat ≤ maxLen ∧ (0 + ((k : Int) - 0).toNat) * 8 ≤ 140737488355328; unfold maxLen; omega), fun i hi => rfl⟩ fun _ => ?_
      refine Need.mk ⟨(by show na + 1 ≤ maxLen ∧ (na + 1) * 24 ≤ 140737488355328; unfold maxLen; omega), trivial⟩ fun _ => ?_
      refine Need.mk (show (0 : Int) ≤ (k : Int) ∧ (k : Int) ≤ (cnt : Int) ∧ (cnt : Int) ≤ (cnt : Int) by omega) fun _ => ?_
      refine ⟨⟨out ++ [RS.take k], na + 1, RS.drop k, ((cnt : Int) - (k : Int)).toNat, 0, [], by rw [List.length_drop]; omega, by simp [hna], by omega, rfl, by omega, heqX, fun x hx => absurd hx (by simp), fun r hr => fits_right hokU (hfU r (hsub r (List.mem_of_mem_drop hr))), fun r hr => hsub r (List.mem_of_mem_drop hr)⟩, (by show ((cnt : Int) - (k : Int)).toNat < cnt; omega), ?_⟩
      have htx : ∀ i j, i < na + 1 → j < 1 → Cell.le (pushC na (txG out) [.es true 3 1 ((k : Int) - 0).toNat (fun i => inG RS (0 + i))] i j) (txG (out ++ [RS.take k]) i j) := txG_push hna (by rw [List.length_take]; omega) fun i hi => in_take (by omega)
      have hdr : (fun i => inG RS (k + i)) = inG (RS.drop k) := inG_drop
      exact StT.trans (StT.nil (d := 1) (.data false 60 50 0 (msgG false [])) rfl rfl) (StT.trans (StT.partE (d := 11) rfl rfl) (StT.ofL (σ := [0, 1, 2, 3, 4, 12, 10, 11]) ⟨rfl, by show List.Nodup [3, 4, 10]; decide, by repeat' (first | exact trivial | exact htx | exact hdr | exact rfl | apply And.intro | exact (fun _ _ _ _ => Cell.le_refl _) | (intro i hi; rfl) | (intro i hi; exact absurd hi (Nat.not_lt_zero _))), by repeat' (first | exact trivial | exact htx | exact hdr | exact rfl | apply And.intro | exact (fun _ _ _ _ => Cell.le_refl _) | (intro i hi; rfl) | (intro i hi; exact absurd hi (Nat.not_lt_zero _)))⟩))
    replace hlt : (k : Int) < @Nat.cast Int instNatCastInt cnt := of_decide_eq_true (p := (k : Int) < (cnt : Int)) hlt
    have hkR : k < RS.length := by omega
    refine Need.mk (show 0 ≤ (k : Int) ∧ (k : Int) < (cnt : Int) by omega) fun _ => Need.mk (show k < cnt by omega) fun _ => ?_
    have hmem := iA_mem hkR
    have hdc := drop_cons hkR
    have htk := take_snoc hkR
    generalize hr : iA RS _ = r
    replace hr : iA RS k = r := hr
    rw [hr] at hmem hdc htk
    obtain ⟨i, rfl, hi1, hi2'⟩ := hR r (hsub r hmem)
    have hiK : i < K.length := by omega
    refine Need.mk (show 0 ≤ (i : Int) ∧ (i : Int) < (n' : Int) by omega) fun _ => Need.mk (show i < n' by omega) fun _ => ?_
    have hokp : ∀ m ∈ TX ++ [gM K i], MsgOk m := fun m hm => by
      rcases List.mem_append.1 hm with h | h
      · exact hokT m h
      · rw [List.mem_singleton.1 h]; exact ho' i
    have hrn : S.rest.length ≤ 70 := by omega
    refine Need.mk (show nt ≤ 1000000 by omega) fun _ => ?_
    refine Need.mk (IsMs.pre (L := TX ++ [gM K i]) (IsMs.push (IsMs.msg (fr := false) ht) (by rw [← msgCl_old (fr := false)]; rfl)) hokp (by omega)).1 fun _ => ?_
    generalize hE : fitsM g b c _ = E
    replace hE : fitsM g b c (TX ++ [gM K i]) = E := (congrArg (fitsM g b c) (IsMs.pre (L := TX ++ [gM K i]) (IsMs.push (IsMs.msg (fr := false) ht) (by rw [← msgCl_old (fr := false)]; rfl)) hokp (by omega)).2.symm).trans hE
    refine Ife.mk (fun hf1 => ?_) (fun hf1 => ?_)
    · replace hf1 : E = true := hf1
      refine Need.mk (show 0 ≤ (k : Int) ∧ (k : Int) < (cnt : Int) by omega) fun _ => Need.mk (show k < cnt by omega) fun _ => ?_
      refine Need.mk (show 0 ≤ (i : Int) ∧ (i : Int) < (n' : Int) by omega) fun _ => Need.mk (show i < n' by omega) fun _ => ?_
      refine Need.mk ⟨(by show nt + 1 ≤ maxLen ∧ (nt + 1) * 240 ≤ 140737488355328; unfold maxLen; omega), trivial⟩ fun _ => ?_
      refine Need.mk (by show fitStd .i64 ((k : Int) + 1); unfold fitStd; omega) fun _ => ?_
      refine ⟨⟨k + 1, TX ++ [gM K i], nt + 1, by omega, by simp [ht], by omega, ?hq, hokp, fun h => by omega⟩, (by show cnt - (k + 1) < cnt - k; omega), ?st⟩
      case hq =>
        rw [heqI, hdc, htk]
        exact rgo_take (m := placeM K) (r := (i : Int)) (hE.trans hf1)
      case st => exact StT.ofL (σ := [0, 1, 2, 3, 4, 5, 6, 17]) ⟨rfl, by show List.Nodup [3, 4, 6, 17]; decide, by repeat' (first | exact trivial | exact pushC_le ht rfl | exact rfl | apply And.intro | exact (fun _ _ _ _ => Cell.le_refl _) | (intro i hi; rfl) | (intro i hi; exact absurd hi (Nat.not_lt_zero _))), by repeat' (first | exact trivial | exact pushC_le ht rfl | exact rfl | apply And.intro | exact (fun _ _ _ _ => Cell.le_refl _) | (intro i hi; rfl) | (intro i hi; exact absurd hi (Nat.not_lt_zero _)))⟩
    · replace hf1 : E = false := hf1
      have hk0 : k ≠ 0 := fun h => by
        have e := h0T h
        have h3 := hf _ hmem
        rw [← e] at h3
        have h4 : fitsM g b c (TX ++ [gM K i]) = true := h3
        rw [hE, hf1] at h4
        cases h4
      have hk1 : 1 ≤ k := Nat.one_le_iff_ne_zero.2 hk0
      have heqX : rgo (fitsM g b c) (placeM K) [] [] U S.rest = rgo (fitsM g b c) (placeM K) (out ++ [RS.take k]) [] [] (RS.drop k) := by
        rw [heqI, hdc]
        exact rgo_full (m := placeM K) (r := (i : Int)) (takeI_ne hk1 (by omega)) (hE.trans hf1)
      refine Need.mk (show (0 : Int) ≤ 0 ∧ (0 : Int) ≤ (k : Int) ∧ (k : Int) ≤ (cnt : Int) by omega) fun _ => ?_
      refine Need.mk ⟨(by show 0 + ((k : Int) - 0).toNat ≤ maxLen ∧ (0 + ((k : Int) - 0).toNat) * 8 ≤ 140737488355328; unfold maxLen; omega), fun i hi => rfl⟩ fun _ => ?_
      refine Need.mk ⟨(by show na + 1 ≤ maxLen ∧ (na + 1) * 24 ≤ 140737488355328; unfold maxLen; omega), trivial⟩ fun _ => ?_
      refine Need.mk (show (0 : Int) ≤ (k : Int) ∧ (k : Int) ≤ (cnt : Int) ∧ (cnt : Int) ≤ (cnt : Int) by omega) fun _ => ?_
      refine ⟨⟨out ++ [RS.take k], na + 1, RS.drop k, ((cnt : Int) - (k : Int)).toNat, 0, [], by rw [List.length_drop]; omega, by simp [hna], by omega, rfl, by omega, heqX, fun x hx => absurd hx (by simp), fun r hr => fits_right hokU (hfU r (hsub r (List.mem_of_mem_drop hr))), fun r hr => hsub r (List.mem_of_mem_drop hr)⟩, (by show ((cnt : Int) - (k : Int)).toNat < cnt; omega), ?_⟩
      have htx : ∀ i j, i < na + 1 → j < 1 → Cell.le (pushC na (txG out) [.es true 3 1 ((k : Int) - 0).toNat (fun i => inG RS (0 + i))] i j) (txG (out ++ [RS.take k]) i j) := txG_push hna (by rw [List.length_take]; omega) fun i hi => in_take (by omega)
      have hdr : (fun i => inG RS (k + i)) = inG (RS.drop k) := inG_drop
      exact StT.trans (StT.nil (d := 1) (.data false 60 50 0 (msgG false [])) rfl rfl) (StT.trans (StT.partE (d := 11) rfl rfl) (StT.ofL (σ := [0, 1, 2, 3, 4, 18, 16, 17]) ⟨rfl, by show List.Nodup [3, 4, 16]; decide, by repeat' (first | exact trivial | exact htx | exact hdr | exact rfl | apply And.intro | exact (fun _ _ _ _ => Cell.le_refl _) | (intro i hi; rfl) | (intro i hi; exact absurd hi (Nat.not_lt_zero _))), by repeat' (first | exact trivial | exact htx | exact hdr | exact rfl | apply And.intro | exact (fun _ _ _ _ => Cell.le_refl _) | (intro i hi; rfl) | (intro i hi; exact absurd hi (Nat.not_lt_zero _)))⟩))

end Go.Proofs.Ythomoliklfmnkaa.Vx
end
