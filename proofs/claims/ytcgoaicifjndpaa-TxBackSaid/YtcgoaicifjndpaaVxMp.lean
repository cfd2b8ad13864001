/- Maps with numbers as values: what looking up and setting come to. -/
import Derived.Test.YtcgoaicifjndpaaM4
import Derived.MapKept
import Derived.WideKeyRuns
namespace Go.Proofs.Ytcgoaicifjndpaa.Vx
open Go.RowKit
set_option linter.unusedVariables false
set_option linter.unusedSimpArgs false

theorem kd_map {P : Program} {d : TypeDesc} {k e : TypeId} (h : kdOf P d = .map k e) : d = .map k e := by
  cases d <;> simp only [kdOf] at h <;> try (cases h; done)
  · cases h; rfl
  · split at h <;> cases h
theorem kd_i64 {P : Program} {d : TypeDesc} (h : kdOf P d = .int .i64) : d = .int .i64 := by
  cases d <;> simp only [kdOf] at h <;> try (cases h; done)
  · cases h; rfl
  · split at h <;> cases h
open Classical in
/-- Where a key first stands. -/
noncomputable def firstN (v : Value) : List MapEntry → Option Nat
  | [] => none
  | e :: es => if e.key = v then some 0 else (firstN v es).map (· + 1)
def valAt (es : List MapEntry) (j : Nat) : Value := match es[j]? with
  | some e => e.val
  | none => undef
theorem firstN_at {v : Value} : ∀ {es : List MapEntry} {j : Nat}, firstN v es = some j → ∃ e, es[j]? = some e ∧ e.key = v
  | [], j, h => by cases h
  | e :: es, j, h => by
    unfold firstN at h
    split at h
    · rename_i hk
      cases h
      exact ⟨e, rfl, hk⟩
    · cases hf : firstN v es with
      | none => rw [hf] at h; cases h
      | some i =>
        rw [hf] at h
        cases h
        obtain ⟨e', h1, h2⟩ := firstN_at hf
        exact ⟨e', by simpa using h1, h2⟩
theorem shKs_eq : ∀ {gs : List Nat} {xs ys : List Value}, shKs gs xs → shKs gs ys → ∃ b, eqVs gs xs ys = some b ∧ (b = true ↔ xs = ys)
  | [], [], [], _, _ => ⟨true, rfl, by simp⟩
  | [], _ :: _, _, h, _ => by simp [shKs] at h
  | [], [], _ :: _, _, h => by simp [shKs] at h
  | g :: gs, [], _, h, _ => by simp [shKs] at h
  | g :: gs, _ :: _, [], _, h => by simp [shKs] at h
  | g :: gs, x :: xs, y :: ys, hx, hy => by
    unfold shKs at hx
    split at hx
    · rename_i h1 _; cases h1
    · rename_i gs' n vs e1 e2
      cases e1; cases e2
      unfold shKs at hy
      split at hy
      · rename_i h1 _; cases h1
      · rename_i gs' m ws e1 e2
        cases e1; cases e2
        obtain ⟨b, h1, h2⟩ := shKs_eq hx hy
        refine ⟨decide (n = m) && b, by simp [eqVs, eqV, h1], ?_⟩
        simp [h2]
      · rename_i e1 _; cases e1
      · rename_i e1 _; cases e1
      · exact hy.elim
    · rename_i gs' s vs e1 e2
      cases e1; cases e2
      unfold shKs at hy
      split at hy
      · rename_i h1 _; cases h1
      · rename_i e1 _; cases e1
      · rename_i gs' u ws e1 e2
        cases e1; cases e2
        obtain ⟨b, h1, h2⟩ := shKs_eq hx hy
        refine ⟨decide (s.toList = u.toList) && b, by simp [eqVs, eqV, h1], ?_⟩
        have : s.toList = u.toList ↔ s = u := ⟨fun h => by
          obtain ⟨⟨l⟩⟩ := s
          obtain ⟨⟨m⟩⟩ := u
          have h' : l = m := (toList_mk l).symm.trans (h.trans (toList_mk m))
          rw [h'], fun h => by rw [h]⟩
        simp [h2, this]
      · rename_i e1 _; cases e1
      · exact hy.elim
    · rename_i gs' b0 vs e1 e2
      cases e1; cases e2
      unfold shKs at hy
      split at hy
      · rename_i h1 _; cases h1
      · rename_i e1 _; cases e1
      · rename_i e1 _; cases e1
      · rename_i gs' c0 ws e1 e2
        cases e1; cases e2
        obtain ⟨b, h1, h2⟩ := shKs_eq hx hy
        refine ⟨(b0 == c0) && b, by simp [eqVs, eqV, h1], ?_⟩
        simp [h2]
      · exact hy.elim
    · exact hx.elim
/-- What is told of a map's keys. -/
structure MapOk (P : Program) (kt : TypeId) (gs : List Nat) : Prop where
  check : ∀ v, keySh gs v → ∀ em W, (Instr.checkKey em 10000 kt v).run P W = .ok () W
  find : ∀ v es, keySh gs v → (∀ e ∈ es, keySh gs e.key) → ∀ W, (Instr.findKey kt v es).run P W = .ok ((firstN v es).map fun j => (j, valAt es j)) W
theorem valAt_succ {e : MapEntry} {es : List MapEntry} {j : Nat} : valAt (e :: es) (j + 1) = valAt es j := by simp [valAt]
theorem findNow_first {n : Int} : ∀ {es : List MapEntry} {i : Nat}, (∀ e ∈ es, keySh [] e.key) → Instr.findNow (.int .i64) (.int .i64 n) es i = some ((firstN (.int .i64 n) es).map fun j => (i + j, valAt es j))
  | [], i, _ => rfl
  | e :: es, i, h => by
    obtain ⟨m, hm⟩ := h e (by simp)
    have ih := findNow_first (n := n) (es := es) (i := i + 1) fun x hx => h x (by simp [hx])
    unfold Instr.findNow firstN
    rw [hm]
    by_cases hk : n = m
    · subst hk
      simp [Instr.sameNow, valAt]
    · have hk' : ¬ m = n := fun x => hk x.symm
      simp only [Instr.sameNow, if_true, show (n == m) = false from by simpa using hk, ih]
      rw [if_neg (by simpa using hk')]
      cases firstN (.int .i64 n) es with
      | none => rfl
      | some j => simp [valAt_succ, Nat.add_assoc, Nat.add_comm 1 j]
theorem MapOk.int {P : Program} {kt : TypeId} (hd : P.underlying kt = some (.int .i64)) : MapOk P kt [] where
  check v hv em W := by
    obtain ⟨n, rfl⟩ := hv
    exact MapKept.run_checkKey hd (by simp [MapKept.IsKey]) em 9999
  find v es hv hes W := by
    obtain ⟨n, rfl⟩ := hv
    have := findNow_first (n := n) (es := es) (i := 0) hes
    rw [MapKept.run_findKey hd this]
    simp
theorem MapOk.flat {P : Program} {kt : TypeId} {g : Nat} {gs : List Nat} (hd : (match P.underlying kt with | some (.array _ _) | some (.struct _) => true | _ => false) = true) (F : FlatOk P kt (g :: gs)) : MapOk P kt (g :: gs) where
  check v hv em W := by
    obtain ⟨vs, rfl, h⟩ := hv
    exact F.check vs h em W
  find v es hv hes W := by
    rw [run_findKey_eq W hd]
    obtain ⟨vs, rfl, h⟩ := hv
    have key : ∀ (es : List MapEntry) (i : Nat), (∀ e ∈ es, keySh (g :: gs) e.key) → (Instr.findAsking kt (.agg vs.toArray) es i).run P W = .ok ((firstN (.agg vs.toArray) es).map fun j => (i + j, valAt es j)) W := by
      intro es
      induction es with
      | nil => intro i _; simp [Instr.findAsking, firstN]
      | cons e es ih =>
        intro i hes
        obtain ⟨ws, hw, h2⟩ := hes e (by simp)
        obtain ⟨b, hb, hi⟩ := shKs_eq h h2
        have hr := F.equal vs ws b hb W
        have hih := ih (i + 1) fun x hx => hes x (by simp [hx])
        unfold firstN
        rw [hw]
        cases b with
        | true =>
          have := hi.1 rfl
          subst this
          simp [Instr.findAsking, hw, hr, valAt]
        | false =>
          have hne : ¬ ws = vs := fun x => by have := hi.2 x.symm; cases this
          rw [if_neg (by simpa using hne)]
          simp only [Instr.findAsking, hw, Sem.run_bind, hr, Result.andThen_ok]
          cases hfn : firstN (.agg vs.toArray) es with
          | none => rw [hfn] at hih; simp [hih]
          | some j => rw [hfn] at hih; simp [hih, valAt_succ, Nat.add_assoc, Nat.add_comm 1 j]
    have := key es 0 hes
    simpa using this
theorem sameBits_sh {gs : List Nat} {v : Value} (h : keySh gs v) : Instr.sameBits 10000 v v = true := by
  cases gs with
  | nil => obtain ⟨n, rfl⟩ := h; simp [Instr.sameBits]
  | cons g gs =>
    obtain ⟨vs, rfl, h⟩ := h
    rw [show (10000 : Nat) = 9999 + 1 from rfl]
    simp only [Instr.sameBits, beq_self_eq_true, Bool.true_and]
    have key : ∀ (gs : List Nat) (vs : List Value), shKs gs vs → (vs.zip vs).all (fun (x, y) => Instr.sameBits 9999 x y) = true := by
      intro gs
      induction gs with
      | nil => intro vs h; cases vs with
        | nil => rfl
        | cons v vs => simp [shKs] at h
      | cons g gs ih =>
        intro vs h
        unfold shKs at h
        split at h
        · rename_i h1; cases h1
        · rename_i e1; cases e1
          simp [Instr.sameBits, ih _ h, MapKept.bytes_beq]
        · rename_i e1; cases e1
          simp [Instr.sameBits, ih _ h, MapKept.bytes_beq]
        · rename_i e1; cases e1
          simp [Instr.sameBits, ih _ h, MapKept.bytes_beq]
        · exact h.elim
    exact key _ _ h
def kvE (e : MapEntry) : Value × Value := (e.key, e.val)
def kvQ (q : Value × Int) : Value × Value := (q.1, Value.int .i64 q.2)
theorem get_first {v : Value} : ∀ {es : List MapEntry} {l : List (Value × Int)}, es.map kvE = l.map kvQ → (match firstN v es with | some j => valAt es j | none => .int .i64 0) = .int .i64 (mpGet v l)
  | [], [], _ => rfl
  | [], _ :: _, h => by simp at h
  | _ :: _, [], h => by simp at h
  | e :: es, q :: l, h => by
    simp only [List.map_cons, List.cons.injEq, kvE, kvQ, Prod.mk.injEq] at h
    have ih := get_first (v := v) h.2
    unfold firstN mpGet
    rw [h.1.1]
    by_cases hk : q.1 = v
    · rw [if_pos hk, if_pos hk]
      exact h.1.2
    · rw [if_neg hk, if_neg hk, ← ih]
      cases firstN v es with
      | none => rfl
      | some j => exact valAt_succ
theorem set_first {v : Value} {n : Int} {ck : Nat} : ∀ {es : List MapEntry} {l : List (Value × Int)}, es.map kvE = l.map kvQ →
    ((match firstN v es with | some j => es.modify j fun e => { e with key := v, val := .int .i64 n } | none => es ++ [{ key := v, val := .int .i64 n, born := ck }]) : List MapEntry).map kvE = (mpSet v n l).map kvQ
  | [], [], _ => rfl
  | [], _ :: _, h => by simp at h
  | _ :: _, [], h => by simp at h
  | e :: es, q :: l, h => by
    simp only [List.map_cons, List.cons.injEq, kvE, kvQ, Prod.mk.injEq] at h
    have ih := set_first (v := v) (n := n) (ck := ck) h.2
    unfold firstN mpSet
    rw [h.1.1]
    by_cases hk : q.1 = v
    · rw [if_pos hk, if_pos hk]
      simp [List.modify, kvE, kvQ]
      exact h.2
    · rw [if_neg hk, if_neg hk]
      rw [List.map_cons, ← ih]
      cases firstN v es with
      | none => simp [kvE, kvQ, h.1.1, h.1.2]
      | some j => simp [List.modify, kvE, kvQ, h.1.1, h.1.2]
theorem mpSet_sh {gs : List Nat} {v : Value} {n : Int} (hv : keySh gs v) : ∀ {l : List (Value × Int)}, (∀ q ∈ l, keySh gs q.1) → ∀ q ∈ mpSet v n l, keySh gs q.1
  | [], _, q, hq => by
    simp [mpSet] at hq
    subst hq
    exact hv
  | a :: l, h, q, hq => by
    unfold mpSet at hq
    split at hq
    · rcases List.mem_cons.1 hq with rfl | hq
      · exact hv
      · exact h q (by simp [hq])
    · rcases List.mem_cons.1 hq with rfl | hq
      · exact h _ (by simp)
      · exact mpSet_sh hv (fun x hx => h x (by simp [hx])) q hq
theorem cellsK_ok {ρ : List Pl} : ∀ {gs : List Nat} {cs : List CV} {vs us : List Value}, cellsK gs cs = some vs → IsL ρ cs us → us = vs ∧ shKs gs vs
  | [], [], vs, us, h, hu => by
    cases h
    cases us with
    | nil => exact ⟨rfl, trivial⟩
    | cons u us => simp [IsL] at hu
  | [], c :: cs, vs, us, h, hu => by simp [cellsK] at h
  | g :: gs, cs, vs, us, h, hu => by
    unfold cellsK at h
    split at h
    all_goals first
      | (cases h; done)
      | (rename_i h1 _; cases h1; done)
      | (rename_i h1; cases h1; done)
      | (rename_i e1
         cases e1
         split at h
         · rename_i ws hws
           cases h
           cases us with
           | nil => simp [IsL] at hu
           | cons u us =>
             simp only [IsL, List.map_cons, List.cons.injEq] at hu
             obtain ⟨h1, h2⟩ := cellsK_ok hws hu.2
             have h3 := hu.1
             simp only [CV.den, Option.some.injEq] at h3
             subst h1
             subst h3
             exact ⟨rfl, h2⟩
         · cases h)
theorem keyC_ok {ρ : List Pl} {gs : List Nat} {x : SV} {v u : Value} (h : keyC gs x = some v) (hx : x.is ρ u) : u = v ∧ keySh gs v := by
  unfold keyC at h
  split at h
  · cases h
    exact ⟨(Option.some.inj hx).symm, _, rfl⟩
  · split at h
    · rename_i ws hws
      cases h
      obtain ⟨us, h1, h2⟩ := hx
      obtain ⟨h3, h4⟩ := cellsK_ok hws h1
      subst h3
      exact ⟨h2, _, rfl, h4⟩
    · cases h
  · cases h
theorem mapTy_ok {P : Program} {E : Tbl} (hE : E.Ok P) {t : TypeId} {gs : List Nat} (h : mapTy E t = some gs) : ∃ kt et, P.underlying t = some (.map kt et) ∧ (∀ W, (zeroValue et).run P W = .ok (.int .i64 0) W) ∧ MapOk P kt gs := by
  unfold mapTy at h
  split at h
  · rename_i ti hti
    split at h
    · rename_i kt et hkd
      obtain ⟨i0, d0, z0, T0⟩ := TI.spec (hE.T _ ti hti)
      have hd0 := kd_map (T0.kd.symm.trans hkd)
      split at h
      · rename_i ei ki hei hki
        obtain ⟨i1, d1, z1, T1⟩ := TI.spec (hE.T _ ei hei)
        obtain ⟨i2, d2, z2, T2⟩ := TI.spec (hE.T _ ki hki)
        have hz : ∀ (hk : ei.kd = .int .i64) (hz : ei.zero = [.int .i64 0]) W, (zeroValue et).run P W = .ok (.int .i64 0) W := fun hk hz W => by
          have hz1 : z1 = .int .i64 0 := by
            have hd1 := kd_i64 (T1.kd.symm.trans hk)
            have h1 := T1.zone (by rw [hd1]; rfl)
            have h2 := T1.zs
            rw [hz] at h2
            cases z1 with
            | agg cs => cases h1
            | tuple cs => cases h1
            | int k n => simp [Value.cells, CV.ofV] at h2; obtain ⟨rfl, rfl⟩ := h2; rfl
            | bool b => cases b <;> simp [Value.cells, CV.ofV] at h2
            | _ => simp [Value.cells, CV.ofV] at h2
          simp [zeroValue, typeInfo, T1.info, T1.zero, hz1]
        split at h
        · rename_i he1 he2 hk1
          cases h
          exact ⟨kt, et, by rw [T0.und, hd0], hz he1 he2, MapOk.int (by rw [T2.und, kd_i64 (T2.kd.symm.trans hk1)])⟩
        · rename_i fs he1 he2 hk1
          split at h
          · rename_i g gs' hF
            cases h
            refine ⟨kt, et, by rw [T0.und, hd0], hz he1 he2, MapOk.flat ?_ (hE.F _ _ hF)⟩
            rw [T2.und]
            have hk2 := T2.kd
            rw [hk1] at hk2
            cases d2 <;> simp [kdOf] at hk2
            rfl
          · cases h
        · cases h
      · cases h
    · cases h
  · cases h
theorem mp_get {P : Program} {t kt et : TypeId} {gs : List Nat} (ht : P.underlying t = some (.map kt et)) (hz : ∀ W, (zeroValue et).run P W = .ok (.int .i64 0) W) (M : MapOk P kt gs) {W : World} {b : Nat} {l : List (Value × Int)} (hm : MapAt W b gs l) {v : Value} (hv : keySh gs v) :
    (Instr.lookup t (.map (some b)) v false).run P W = .ok (.int .i64 (mpGet v l)) W := by
  obtain ⟨es, ck, h1, h2, h3⟩ := hm
  have hsh : ∀ e ∈ es.toList, keySh gs e.key := fun e he => by
    have : (e.key, e.val) ∈ l.map (fun q => (q.1, Value.int .i64 q.2)) := by rw [← h2]; exact List.mem_map.2 ⟨e, he, rfl⟩
    obtain ⟨q, hq, hqe⟩ := List.mem_map.1 this
    simp only [Prod.mk.injEq] at hqe
    rw [← hqe.1]
    exact h3 q hq
  have hf := M.find v es.toList hv hsh W
  have hg := get_first (v := v) (es := es.toList) (l := l) h2
  simp only [Instr.lookup, Sem.run_bind, run_underlying ht, Result.andThen_ok, MapKept.run_getObj_map h1, Sem.run_pure, M.check v hv, hf]
  cases hfn : firstN v es.toList with
  | none =>
    rw [hfn] at hg
    simp [hz, hg]
  | some j =>
    rw [hfn] at hg
    simp [hg]
theorem mp_set {P : Program} {t kt et : TypeId} {gs : List Nat} (ht : P.underlying t = some (.map kt et)) (M : MapOk P kt gs) {W : World} {b : Nat} {l : List (Value × Int)} (hm : MapAt W b gs l) {v : Value} (hv : keySh gs v) (n : Int) :
    ∃ es' ck', (Instr.mapUpdate t (.map (some b)) v (.int .i64 n)).run P W = .ok () { W with heap := W.heap.setIfInBounds b (.map es' ck') } ∧ MapAt { W with heap := W.heap.setIfInBounds b (.map es' ck') } b gs (mpSet v n l) ∧ b < W.heap.size := by
  obtain ⟨es, ck, h1, h2, h3⟩ := hm
  have hsh : ∀ e ∈ es.toList, keySh gs e.key := fun e he => by
    have : (e.key, e.val) ∈ l.map (fun q => (q.1, Value.int .i64 q.2)) := by rw [← h2]; exact List.mem_map.2 ⟨e, he, rfl⟩
    obtain ⟨q, hq, hqe⟩ := List.mem_map.1 this
    simp only [Prod.mk.injEq] at hqe
    rw [← hqe.1]
    exact h3 q hq
  have hf := M.find v es.toList hv hsh W
  have hg := set_first (v := v) (n := n) (ck := ck) (es := es.toList) (l := l) h2
  have hb : b < W.heap.size := (Array.getElem?_eq_some_iff.1 h1).1
  cases hfn : firstN v es.toList with
  | none =>
    rw [hfn] at hg hf
    refine ⟨es.push { key := v, val := .int .i64 n, born := ck }, ck + 1, ?_, ⟨es.push { key := v, val := .int .i64 n, born := ck }, ck + 1, by simp [hb], ?_, mpSet_sh hv h3⟩, hb⟩
    · simp only [Instr.mapUpdate, Sem.run_bind, run_underlying ht, Result.andThen_ok, MapKept.run_getObj_map h1, M.check v hv, hf, Option.map_none, MapKept.run_setObj_map _ h1]
    · rw [Array.toList_push]
      exact hg
  | some j =>
    obtain ⟨e0, he1, he2⟩ := firstN_at hfn
    rw [hfn] at hg hf
    have he1' : es[j]? = some e0 := by simpa using he1
    refine ⟨es.modify j fun e => { e with key := v, val := .int .i64 n }, ck, ?_, ⟨es.modify j fun e => { e with key := v, val := .int .i64 n }, ck, by simp [hb], ?_, mpSet_sh hv h3⟩, hb⟩
    · simp only [Instr.mapUpdate, Sem.run_bind, run_underlying ht, Result.andThen_ok, MapKept.run_getObj_map h1, M.check v hv, hf, Option.map_some, he1', Option.getD_some, he2, Instr.keyThatStays, sameBits_sh hv, if_true, Sem.run_pure, MapKept.run_setObj_map _ h1]
    · rw [Array.toList_modify]
      exact hg

/-! ### Maps with records as values -/
theorem ofV_int {v : Value} {k : IntKind} {n : Int} (h : CV.ofV v = .int k n) : v = .int k n := by
  cases v with
  | bool b => cases b <;> cases h
  | int k' n' => cases h; rfl
  | _ => cases h
theorem ofV_nil {v : Value} (h : CV.ofV v = .val (.pointer none)) : v = .pointer none := by
  cases v with
  | bool b => cases b <;> cases h
  | int k' n' => cases h
  | string s => cases h
  | _ => first | (cases h; rfl) | cases h
theorem kindsQ_ok : ∀ {vs : List Value} {ks : List IntKind} (i : Nat), kindsQ (vs.map CV.ofV) = some ks → vs = numsV ks (fun _ => 0) i ++ [.pointer none]
  | [], ks, i, h => by simp [kindsQ] at h
  | v :: vs, ks, i, h => by
    rw [List.map_cons] at h
    unfold kindsQ at h
    split at h
    · rename_i heq
      cases h
      obtain ⟨h1, h2⟩ := List.cons.inj heq
      have h3 : vs = [] := by simpa using h2
      rw [ofV_nil h1, h3]
      rfl
    · rename_i k r heq
      obtain ⟨h1, h2⟩ := List.cons.inj heq
      split at h
      · rename_i ks' hk
        cases h
        rw [← h2] at hk
        rw [ofV_int h1, numsV, List.cons_append, ← kindsQ_ok (i + 1) hk]
      · cases h
    · cases h
theorem mapTyQ_ok {P : Program} {E : Tbl} (hE : E.Ok P) {t : TypeId} {mt : MTy} (h : mapTyQ E t = some mt) : ∃ kt et, P.underlying t = some (.map kt et) ∧ (∀ W, (zeroValue et).run P W = .ok (.agg (numsV mt.ks (fun _ => 0) 0 ++ [Value.pointer none]).toArray) W) ∧ MapOk P kt mt.gs := by
  unfold mapTyQ at h
  split at h
  · split at h
    · rename_i ti hti
      split at h
      · rename_i kt et hkd
        obtain ⟨i0, d0, z0, T0⟩ := TI.spec (hE.T _ ti hti)
        have hd0 := kd_map (T0.kd.symm.trans hkd)
        split at h
        · rename_i ei ki hei hki
          obtain ⟨i1, d1, z1, T1⟩ := TI.spec (hE.T _ ei hei)
          obtain ⟨i2, d2, z2, T2⟩ := TI.spec (hE.T _ ki hki)
          split at h
          · rename_i fs g gs k ks hk1 hF hz
            cases h
            have hz1 := hz
            rw [T1.zs] at hz1
            have hzl := kindsQ_ok 0 hz1
            have hza : z1 = .agg (numsV (k :: ks) (fun _ => 0) 0 ++ [Value.pointer none]).toArray := by
              cases z1 with
              | agg cs =>
                have : cs.toList = numsV (k :: ks) (fun _ => 0) 0 ++ [Value.pointer none] := hzl
                rw [← this]
              | _ =>
                have h3 := congrArg List.length hzl
                simp [Value.cells, numsV] at h3
            refine ⟨kt, et, by rw [T0.und, hd0], fun W => by simp [zeroValue, typeInfo, T1.info, T1.zero, hza], MapOk.flat ?_ (hE.F _ _ hF)⟩
            rw [T2.und]
            have hk2 := T2.kd
            rw [hk1] at hk2
            cases d2 <;> simp [kdOf] at hk2
            rfl
          · cases h
        · cases h
      · cases h
    · cases h
  · cases h
theorem firstQ {v : Value} : ∀ {es : List MapEntry} {l : List (Value × MRec)}, es.map (fun e => e.key) = l.map (fun q => q.1) →
    (∀ j, firstN v es = some j → mqHas v l = true ∧ ∀ W D t, recsShow W D t es l → (mqRec v l).shows W D t (valAt es j)) ∧ (firstN v es = none → mqHas v l = false)
  | [], [], _ => ⟨fun j h => (by cases h), fun _ => rfl⟩
  | [], _ :: _, h => by simp at h
  | _ :: _, [], h => by simp at h
  | e :: es, q :: l, h => by
    simp only [List.map_cons, List.cons.injEq] at h
    have ih := firstQ (v := v) h.2
    unfold firstN mqHas mqRec
    rw [h.1]
    by_cases hk : q.1 = v
    · rw [if_pos hk, if_pos hk, if_pos hk]
      exact ⟨fun j hj => (by cases hj; exact ⟨rfl, fun W D t hr => hr.1⟩), fun hj => (by cases hj)⟩
    · rw [if_neg hk, if_neg hk, if_neg hk]
      cases hf : firstN v es with
      | none => exact ⟨fun j hj => (by cases hj), fun _ => ih.2 hf⟩
      | some i =>
        obtain ⟨h1, h2⟩ := ih.1 i hf
        exact ⟨fun j hj => (by cases hj; exact ⟨h1, fun W D t hr => (by rw [valAt_succ]; exact h2 W D t hr.2)⟩), fun hj => (by cases hj)⟩
theorem setQ {v rv : Value} {m : MRec} {ck : Nat} : ∀ {es : List MapEntry} {l : List (Value × MRec)}, es.map (fun e => e.key) = l.map (fun q => q.1) →
    ((match firstN v es with | some j => es.modify j fun e => { e with key := v, val := rv } | none => es ++ [{ key := v, val := rv, born := ck }]) : List MapEntry).map (fun e => e.key) = (mqSet v m l).map (fun q => q.1) ∧
    ∀ W D t, recsShow W D t es l → m.shows W D t rv → recsShow W D t (match firstN v es with | some j => es.modify j fun e => { e with key := v, val := rv } | none => es ++ [{ key := v, val := rv, born := ck }]) (mqSet v m l)
  | [], [], _ => ⟨rfl, fun W D t _ h => ⟨h, trivial⟩⟩
  | [], _ :: _, h => by simp at h
  | _ :: _, [], h => by simp at h
  | e :: es, q :: l, h => by
    simp only [List.map_cons, List.cons.injEq] at h
    have ih := setQ (v := v) (rv := rv) (m := m) (ck := ck) h.2
    unfold firstN mqSet
    rw [h.1]
    by_cases hk : q.1 = v
    · rw [if_pos hk, if_pos hk]
      refine ⟨by simp [List.modify, h.2], fun W D t hr hm => ?_⟩
      show recsShow W D t ((e :: es).modify 0 _) _
      simp only [List.modify, List.modifyTailIdx]
      exact ⟨hm, hr.2⟩
    · rw [if_neg hk, if_neg hk]
      cases hf : firstN v es with
      | none =>
        rw [hf] at ih
        refine ⟨?_, fun W D t hr hm => ⟨hr.1, ih.2 W D t hr.2 hm⟩⟩
        show (e :: (es ++ _)).map _ = _
        rw [List.map_cons, List.map_cons, h.1]
        exact congrArg _ ih.1
      | some j =>
        rw [hf] at ih
        refine ⟨?_, fun W D t hr hm => ⟨hr.1, ih.2 W D t hr.2 hm⟩⟩
        show (e :: es.modify j _).map _ = _
        rw [List.map_cons, List.map_cons, h.1]
        exact congrArg _ ih.1
theorem mqSet_sh {gs : List Nat} {v : Value} {m : MRec} (hv : keySh gs v) : ∀ {l : List (Value × MRec)}, (∀ q ∈ l, keySh gs q.1) → ∀ q ∈ mqSet v m l, keySh gs q.1
  | [], _, q, hq => by
    simp [mqSet] at hq
    subst hq
    exact hv
  | a :: l, h, q, hq => by
    unfold mqSet at hq
    split at hq
    · rcases List.mem_cons.1 hq with rfl | hq
      · exact hv
      · exact h q (by simp [hq])
    · rcases List.mem_cons.1 hq with rfl | hq
      · exact h _ (by simp)
      · exact mqSet_sh hv (fun x hx => h x (by simp [hx])) q hq
theorem mq_keys {gs : List Nat} {es : List MapEntry} {l : List (Value × MRec)} (h2 : es.map (fun e => e.key) = l.map (fun q => q.1)) (h3 : ∀ q ∈ l, keySh gs q.1) : ∀ e ∈ es, keySh gs e.key := fun e he => by
  have : e.key ∈ l.map (fun q => q.1) := by rw [← h2]; exact List.mem_map.2 ⟨e, he, rfl⟩
  obtain ⟨q, hq, hqe⟩ := List.mem_map.1 this
  rw [← hqe]
  exact h3 q hq
theorem mq_get {P : Program} {t kt et : TypeId} {gs : List Nat} {zv : Value} (ht : P.underlying t = some (.map kt et)) (hz : ∀ W, (zeroValue et).run P W = .ok zv W) (M : MapOk P kt gs) {W : World} {b ck : Nat} {es : Array MapEntry} {l : List (Value × MRec)} (h1 : W.heap[b]? = some (.map es ck)) (h2 : es.toList.map (fun e => e.key) = l.map (fun q => q.1)) (h3 : ∀ q ∈ l, keySh gs q.1) {v : Value} (hv : keySh gs v) (cm : Bool) :
    (mqHas v l = true → ∃ rv, (Instr.lookup t (.map (some b)) v cm).run P W = .ok (if cm = true then .tuple #[rv, .bool true] else rv) W ∧ ∀ W' D mt, recsShow W' D mt es.toList l → (mqRec v l).shows W' D mt rv) ∧
    (mqHas v l = false → (Instr.lookup t (.map (some b)) v cm).run P W = .ok (if cm = true then .tuple #[zv, .bool false] else zv) W) := by
  have hf := M.find v es.toList hv (mq_keys h2 h3) W
  obtain ⟨g1, g2⟩ := firstQ (v := v) h2
  have hrun : (Instr.lookup t (.map (some b)) v cm).run P W = (match firstN v es.toList with | some j => .ok (if cm = true then .tuple #[valAt es.toList j, .bool true] else valAt es.toList j) W | none => .ok (if cm = true then .tuple #[zv, .bool false] else zv) W) := by
    simp only [Instr.lookup, Sem.run_bind, run_underlying ht, Result.andThen_ok, MapKept.run_getObj_map h1, Sem.run_pure, M.check v hv, hf]
    cases hfn : firstN v es.toList with
    | none => simp [hz]
    | some j => simp
  rw [hrun]
  cases hfn : firstN v es.toList with
  | none =>
    have := g2 hfn
    exact ⟨fun h => (by rw [this] at h; cases h), fun _ => rfl⟩
  | some j =>
    obtain ⟨k1, k2⟩ := g1 j hfn
    exact ⟨fun _ => ⟨_, rfl, k2⟩, fun h => (by rw [k1] at h; cases h)⟩
theorem mq_set {P : Program} {t kt et : TypeId} {gs : List Nat} (ht : P.underlying t = some (.map kt et)) (M : MapOk P kt gs) {W : World} {b ck : Nat} {es : Array MapEntry} {l : List (Value × MRec)} (h1 : W.heap[b]? = some (.map es ck)) (h2 : es.toList.map (fun e => e.key) = l.map (fun q => q.1)) (h3 : ∀ q ∈ l, keySh gs q.1) {v : Value} (hv : keySh gs v) (rv : Value) (m : MRec) :
    ∃ es' ck', (Instr.mapUpdate t (.map (some b)) v rv).run P W = .ok () { W with heap := W.heap.setIfInBounds b (.map es' ck') } ∧ es'.toList.map (fun e => e.key) = (mqSet v m l).map (fun q => q.1) ∧ b < W.heap.size ∧
    ∀ W' D mt, recsShow W' D mt es.toList l → m.shows W' D mt rv → recsShow W' D mt es'.toList (mqSet v m l) := by
  have hf := M.find v es.toList hv (mq_keys h2 h3) W
  have hb : b < W.heap.size := (Array.getElem?_eq_some_iff.1 h1).1
  obtain ⟨g1, g2⟩ := setQ (v := v) (rv := rv) (m := m) (ck := ck) h2
  cases hfn : firstN v es.toList with
  | none =>
    rw [hfn] at g1 g2 hf
    refine ⟨es.push { key := v, val := rv, born := ck }, ck + 1, ?_, ?_, hb, ?_⟩
    · simp only [Instr.mapUpdate, Sem.run_bind, run_underlying ht, Result.andThen_ok, MapKept.run_getObj_map h1, M.check v hv, hf, Option.map_none, MapKept.run_setObj_map _ h1]
    · rw [Array.toList_push]; exact g1
    · rw [Array.toList_push]; exact g2
  | some j =>
    obtain ⟨e0, he1, he2⟩ := firstN_at hfn
    rw [hfn] at g1 g2 hf
    have he1' : es[j]? = some e0 := by simpa using he1
    refine ⟨es.modify j fun e => { e with key := v, val := rv }, ck, ?_, ?_, hb, ?_⟩
    · simp only [Instr.mapUpdate, Sem.run_bind, run_underlying ht, Result.andThen_ok, MapKept.run_getObj_map h1, M.check v hv, hf, Option.map_some, he1', Option.getD_some, he2, Instr.keyThatStays, sameBits_sh hv, if_true, Sem.run_pure, MapKept.run_setObj_map _ h1]
    · rw [Array.toList_modify]; exact g1
    · rw [Array.toList_modify]; exact g2
theorem recC_ok {ρ : List Pl} : ∀ {ks : List IntKind} {cs : List CV} {ns : List Int} {a : Nat} {vs : List Value} (pre : List Int), recC ks cs = some (ns, a) → IsL ρ cs vs → ∃ p, ρ[a]? = some p ∧ vs = numsV ks (numL (pre ++ ns)) pre.length ++ [.pointer (some ⟨p.b, 0, none⟩)]
  | [], cs, ns, a, vs, pre, h, hv => by
    unfold recC at h
    split at h
    all_goals first
      | (cases h; done)
      | (rename_i h1 _; cases h1; done)
      | (rename_i h1; cases h1; done)
      | (cases h
         cases vs with
         | nil => simp [IsL] at hv
         | cons v vs =>
           simp only [IsL, List.map_cons, List.map_nil, List.cons.injEq] at hv
           have h2 : vs = [] := by simpa using hv.2.symm
           subst h2
           obtain ⟨h3, _⟩ := hv
           simp only [CV.den] at h3
           split at h3
           · rename_i p hk
             exact ⟨p, hk, by rw [← Option.some.inj h3]; rfl⟩
           · cases h3)
  | kd :: ks, cs, ns, a, vs, pre, h, hv => by
    unfold recC at h
    split at h
    all_goals first
      | (cases h; done)
      | (rename_i h1 _; cases h1; done)
      | (rename_i h1; cases h1; done)
      | (rename_i e1
         cases e1
         split at h
         · rename_i hk
           have hk := eq_of_beq hk
           subst hk
           split at h
           · rename_i ns' k' hr
             cases h
             cases vs with
             | nil => simp [IsL] at hv
             | cons v vs =>
               simp only [IsL, List.map_cons, List.cons.injEq] at hv
               obtain ⟨p, h1, h2⟩ := recC_ok (pre ++ [_]) hr hv.2
               refine ⟨p, h1, ?_⟩
               rw [List.append_assoc, List.length_append] at h2
               have e3 : ∀ (x : Int) (r : List Int), numL (pre ++ x :: r) pre.length = x := fun x r => by simp [numL, List.getD]
               rw [numsV, e3, h2]
               have hv1 := Option.some.inj hv.1
               rw [← hv1]
               rfl
           · cases h
         · cases h)
theorem lookQ_spec {E : Tbl} {h : List Ent} {t : Nat} {m k : SV} {mt : MTy} {zk : List IntKind} {kv : Value} {l : List (Value × MRec)} (hq : lookQ E h t m k = some (mt, zk, kv, l)) : ∃ j mt', m = .c (.row j) ∧ h[j]? = some (.mq mt l) ∧ mapTyQ E t = some mt' ∧ mt'.gs = mt.gs ∧ keyC mt.gs k = some kv ∧ zk = mt'.ks := by
  unfold lookQ at hq
  split at hq
  · rename_i j
    split at hq
    · rename_i mt0 l0 hj
      split at hq
      · rename_i mt' hmt
        split at hq
        · rename_i hg hk
          cases hq
          exact ⟨j, mt', rfl, hj, hmt, eq_of_beq hg, hk, rfl⟩
        · cases hq
      · cases hq
    · cases hq
  · cases hq
end Go.Proofs.Ytcgoaicifjndpaa.Vx
