/- ligkeep.Lend and Kept: a slice with spare room. -/
import Derived.Test.YtcgoaicifjndpaaM19
import Derived.Test.YtcgoaicifjndpaaBase
namespace Go.Proofs.Ytcgoaicifjndpaa.Vx
open Go.RowKit Span
set_option linter.unusedVariables false
set_option linter.unusedSimpArgs false
set_option maxRecDepth 100000 in
set_option maxHeartbeats 1000000 in
theorem lendWalk (W : World) (b o n cap : Nat) (zs : List Int) (hz : zs.length = n) (h0 : 0 < n) (hn : n ≤ 1000000) (hb : b < W.heap.size)
    (hcell : ∀ (j : Nat) (u : Value), (zs.map (Value.int .i64))[j]? = some u → W.cell? ⟨b, o + j, none⟩ = some u) :
    Calls Try.prog 18 #[.slice (some ⟨b, o, none⟩) n cap] W fun e W' => e = .returned (.slice (some ⟨W.heap.size, 0, none⟩) n (n + 2)) ∧ W'.heap[W.heap.size]? = some (.cells (zs.map (Value.int .i64) ++ [Value.int .i64 (-777), Value.int .i64 (-777)]).toArray 3 (0, 0)) ∧ Below W.heap.size W W' := by
  obtain ⟨i1, d1, z1, T1⟩ := TI.spec (tbG_ok.T 3 _ rfl)
  have hs1 : i1.size = 1 := T1.size
  have hb8 : i1.bytes = 8 := T1.bytes
  obtain ⟨M, hM⟩ : ∃ M, M = madeCells z1.cells ((((n : Int) + 2).toNat) * i1.size) := ⟨_, rfl⟩
  have hMs : M.size = n + 2 := by
    rw [hM, size_madeCells, hs1]
    omega
  have hmk : ∀ W : World, (Instr.makeSlice 22 (.int .i64 0) (.int .i64 ((n : Int) + 2))).run Try.prog W = .ok (.slice (some ⟨W.heap.size, 0, none⟩) 0 (n + 2)) (W.alloc (.cells M 3)) := fun W => by
    have h := run_make (P := Try.prog) W 22 3 i1 z1 Try.underlying22 T1.info T1.zero .i64 .i64 0 ((n : Int) + 2) (by omega) (by omega) (by rw [hb8]; omega) (by omega)
    rw [← hM] at h
    rw [h]
    rfl
  clear hM
  have hnew : (W.alloc (.cells M 3)).heap[W.heap.size]? = some (.cells M 3 (0, 0)) := heap_alloc_new W _
  obtain ⟨Y, hY⟩ : ∃ Y, Y = (M.toList.take (0 * i1.size) ++ zs.map (Value.int .i64) ++ M.toList.drop (0 * i1.size + (zs.map (Value.int .i64)).length)).toArray := ⟨_, rfl⟩
  have hYs : Y.size = n + 2 := by
    rw [hY]
    simp [hz, hMs]
  have hnews : ∀ (j : Nat) (u : Value), (zs.map (Value.int .i64))[j]? = some u → (W.alloc (.cells M 3)).cell? ((⟨b, o, none⟩ : Addr).add j) = some u := fun j u hj => by
    have := hcell j u hj
    rw [addr_add]
    exact (World.cell?_alloc_some W _ _ (by rw [this]; rfl)).trans this
  have hld := run_firstCells_some (P := Try.prog) (W.alloc (.cells M 3)) 1 n ⟨b, o, none⟩ n cap (zs.map (Value.int .i64)) (by simp [hz]) hnews
  have hst := run_storeCells_at Try.prog W.heap.size 0 3 (zs.map (Value.int .i64)) 0 M (W.alloc (.cells M 3)) hnew (by simp [hz, hMs]) (fun u hu => by
    obtain ⟨x, _, rfl⟩ := List.mem_map.1 hu
    rfl)
  rw [show 0 * i1.size = 0 + 0 by simp] at hY
  rw [← hY] at hst
  simp only [Builtin.firstCells, loadCells, Nat.mul_one] at hld
  have hW2 : ((W.alloc (.cells M 3)).setRow W.heap.size Y).heap[W.heap.size]? = some (.cells Y 3 (0, 0)) := setRow_heap _ _ M _ 3 (0, 0) hnew
  obtain ⟨W2, hE⟩ : ∃ W2, W2 = (W.alloc (.cells M 3)).setRow W.heap.size Y := ⟨_, rfl⟩
  rw [← hE] at hst hW2
  have hYe : Y = (zs.map (Value.int .i64) ++ M.toList.drop n).toArray := by rw [hY]; simp [hz]
  rw [hYe] at hE
  have B0 : Blk ((W.alloc (.cells M 3)).setRow W.heap.size (zs.map (Value.int .i64) ++ M.toList.drop n).toArray) W.heap.size 3 Y := by rw [← hE]; exact hW2
  have B1 := B0.set n (.int .i64 (-777))
  have B2 := B1.set (n + 1) (.int .i64 (-777))
  have hc1 := B0.cell n
  have hc2 := B1.cell (n + 1)
  have hf1 := B0.free n
  have hf2 := B1.free (n + 1)
  go_enter Try.func18, Try.ntmps18
  go_wp2
  all_goals go_ret
  refine ⟨rfl, ?_, ?_⟩
  · refine Eq.trans B2 ?_
    congr 2
    have hD : (M.toList.drop n).length = 2 := by rw [List.length_drop, Array.length_toList, hMs]; omega
    rw [hYe]
    match hd : M.toList.drop n, hD with
    | [x, y], _ => simp [List.set_append_right, hz]
  · have b1 : Below W.heap.size W (W.alloc (.cells M 3)) := (Below.refl _ W).alloc (Nat.le_refl _) _
    have b2 : ∀ X Y, Below W.heap.size X (X.setRow W.heap.size Y) := fun X Y => ⟨rfl, rfl, rfl, by simp [World.setRow], fun k hk => setRow_other _ _ _ _ (by omega)⟩
    have b3 : ∀ (X : World) (j : Nat) (u : Value), Below W.heap.size X (X.setCell ⟨W.heap.size, j, none⟩ u) := fun X j u => ⟨rfl, rfl, rfl, by simp [World.setCell], fun k hk => Below.heap_setCell X _ u k (by show k ≠ W.heap.size; omega)⟩
    exact ((b1.trans (b2 _ _)).trans (b3 _ _ _)).trans (b3 _ _ _)
set_option maxRecDepth 100000 in
set_option maxHeartbeats 1000000 in
theorem lendWalk0 (W : World) (a : Option Addr) (cap : Nat) :
    Calls Try.prog 18 #[.slice a 0 cap] W fun e W' => e = .returned (.slice (some ⟨W.heap.size, 0, none⟩) 0 2) ∧ W'.heap[W.heap.size]? = some (.cells #[Value.int .i64 (-777), Value.int .i64 (-777)] 3 (0, 0)) ∧ Below W.heap.size W W' := by
  obtain ⟨i1, d1, z1, T1⟩ := TI.spec (tbG_ok.T 3 _ rfl)
  have hs1 : i1.size = 1 := T1.size
  have hb8 : i1.bytes = 8 := T1.bytes
  obtain ⟨M, hM⟩ : ∃ M, M = madeCells z1.cells ((2 : Int).toNat * i1.size) := ⟨_, rfl⟩
  have hMs : M.size = 2 := by
    rw [hM, size_madeCells, hs1]
    rfl
  have hmk : ∀ W : World, (Instr.makeSlice 22 (.int .i64 0) (.int .i64 2)).run Try.prog W = .ok (.slice (some ⟨W.heap.size, 0, none⟩) 0 2) (W.alloc (.cells M 3)) := fun W => by
    have h := run_make (P := Try.prog) W 22 3 i1 z1 Try.underlying22 T1.info T1.zero .i64 .i64 0 2 (by omega) (by omega) (by rw [hb8]; omega) (by omega)
    rw [← hM] at h
    rw [h]
    rfl
  clear hM
  have B0 : Blk (W.alloc (.cells M 3)) W.heap.size 3 M := Blk.new W _ M
  have B1 := B0.set 0 (.int .i64 (-777))
  have B2 := B1.set 1 (.int .i64 (-777))
  have hc1 := B0.cell 0
  have hc2 := B1.cell 1
  have hf1 := B0.free 0
  have hf2 := B1.free 1
  have hap : ∀ X : World, (Builtin.append_ #[22, 22] 22 #[.slice (some ⟨W.heap.size, 0, none⟩) 0 2, .slice a 0 cap]).run Try.prog X = .ok (.slice (some ⟨W.heap.size, 0, none⟩) 0 2) X := fun X => by
    cases a <;> simp [Builtin.append_, run_underlying Try.underlying22, sizeOf, typeInfo, T1.info, Builtin.lenOf, Builtin.firstCells, loadCells, loadCellsFrom, storeCells]
  cases a
  all_goals
    go_enter Try.func18, Try.ntmps18
    go_wp2
    go_ret
    refine ⟨rfl, ?_, (Below.refl _ W).alloc (Nat.le_refl _) _⟩
    refine (heap_alloc_new W _).trans ?_
    congr 2
    obtain ⟨l⟩ := M
    match l, hMs with
    | [x, y], _ => rfl
/-- What is lent, with its spare room. -/
def lentL (zs : List Int) : List Int := zs ++ [-777, -777]
def sLend : SpecF
  | [.c (.row 0)], [.elems ty one n get] => some (inPre ty one n get, .c (.vsl 1 0 n 1), [.dead, .row 3 1 (n + 2) (inG (lentL (iL n get)))])
  | _, _ => none
theorem lendP : Fn Try.prog 18 [] [(3, 1)] sLend := by
  refine Fn.plain (by kernel_rfl) (fun args h pre res h' hs => ?_) fun args h pre res h' hs hp ρ W us rel hus => ?_
  · unfold sLend at hs
    split at hs
    · cases hs; exact ⟨rfl, Nat.le_of_ble_eq_true rfl⟩
    · cases hs
  · unfold sLend at hs
    split at hs
    rotate_left
    · cases hs
    rename_i ty one n get
    cases hs
    obtain ⟨rfl, rfl, hin, hn⟩ := hp
    obtain ⟨v, us', rfl, hv, hus'⟩ := hus
    cases hus'
    obtain ⟨p, hpl, hok⟩ := rel.place (k := 0) rfl
    obtain ⟨q, hq, hvq⟩ := den_row hv
    rw [hpl] at hq
    obtain rfl := Option.some.inj hq
    subst hvq
    obtain ⟨⟨a, cap, hpv, hcap, ha⟩, hcells⟩ := hok
    have hzl : (iL n get).length = n := iL_len
    have hcell : ∀ j, j < n → W.cell? ⟨p.b, p.o + j, none⟩ = some (.int .i64 ((iL n get).getD j 0)) := fun j hj => by
      obtain ⟨vs, h1, h2⟩ := hcells j hj
      rw [hin.eq hj] at h1
      obtain rfl : [Value.int .i64 (iA (iL n get) j)] = vs := (show IsL [] (inG (iL n get) j) [.int .i64 (iA (iL n get) j)] from rfl).unique h1
      have := h2 0 _ rfl
      rw [Nat.mul_one, Nat.add_zero] at this
      exact this
    have fin : ∀ (W' : World), W'.heap[W.heap.size]? = some (.cells ((iL n get).map (Value.int .i64) ++ [Value.int .i64 (-777), Value.int .i64 (-777)]).toArray 3 (0, 0)) → Below W.heap.size W W' → ∃ ρ', (SV.c (.vsl 1 0 n 1)).is (ρ ++ ρ') (.slice (some ⟨W.heap.size, 0, none⟩) n (n + 2)) ∧ Rel W (Fps ρ [.elems 3 1 n get]) (ρ ++ ρ') [.dead, .row 3 1 (n + 2) (inG (lentL (iL n get)))] W' := fun W' hh hb => by
      unfold lentL
      have hlen := rel.len
      simp only [List.length_cons, List.length_nil] at hlen
      have ho : W'.ownsRow 0 3 1 (.slice (some ⟨W.heap.size, 0, none⟩) (n + 2) (n + 2)) (n + 2) ((iL n get ++ [-777, -777]).map (Value.int .i64)) := by
        refine ⟨by simp [hzl], Or.inr ⟨W.heap.size, n + 2, _, rfl, Nat.zero_le _, hh, Nat.le_refl _, by unfold maxLen; omega, by simp [hzl], ?_⟩⟩
        rw [List.take_of_length_le (by simp [hzl])]
        simp
      have hr := rel.bornE (W' := W') (en := .row 3 1 (n + 2) (inG (iL n get ++ [-777, -777]))) (q0 := ⟨W.heap.size, .slice (some ⟨W.heap.size, 0, none⟩) (n + 2) (n + 2), 0⟩) ⟨_, ⟨fun i hi => row_ints _ i (by simp [hzl]; omega), rfl, fun g hg => by simpa [Value.ownBlock] using hg.symm⟩, ho⟩ rfl (fun b hb2 => ?_)
        ⟨hb.os, hb.tape, hb.output, hb.size, fun j hj _ => hb.block j hj⟩ (fun b hb2 => ?_)
      · refine ⟨[⟨W.heap.size, .slice (some ⟨W.heap.size, 0, none⟩) (n + 2) (n + 2), 0⟩], ?_, hr.forget (fun j e he => ?_) rfl⟩
        · show CV.den _ (.vsl 1 0 n 1) = some _
          simp only [CV.den]
          rw [List.getElem?_append_right (by omega), show 1 - ρ.length = 0 by omega]
          simp [subV, Addr.add]
        · cases j with
          | zero => left; exact (Option.some.inj he).symm
          | succ j => right; exact he
      · simp [Ent.fp, Value.ownBlock] at hb2
        subst hb2
        exact (Array.getElem?_eq_some_iff.1 hh).1
      · simp [Ent.fp, Value.ownBlock] at hb2
        subst hb2
        exact Nat.le_refl _
    rw [hpv]
    rcases Nat.eq_zero_or_pos n with h0 | h0
    · subst h0
      refine Calls.mono (lendWalk0 W a cap) fun e W' he => ?_
      obtain ⟨rfl, hh, hb⟩ := he
      obtain ⟨ρ', f1, f2⟩ := fin W' hh hb
      exact ⟨_, ρ', rfl, f1, f2⟩
    · have ha0 := ha h0
      subst ha0
      have hlt : p.b < W.heap.size := by
        have := hcell 0 h0
        exact World.block_lt_of_cell? W _ this
      refine Calls.mono (lendWalk W p.b p.o n cap (iL n get) hzl h0 hn hlt fun j u hj => ?_) fun e W' he => ?_
      · have hjn : j < n := by
          have := (List.getElem?_eq_some_iff.1 hj).1
          simpa [hzl] using this
        rw [hcell j hjn, ← hj, List.getElem?_map, List.getElem?_eq_getElem (by rw [hzl]; exact hjn)]
        simp [List.getD, hzl, hjn]
      · obtain ⟨rfl, hh, hb⟩ := he
        obtain ⟨ρ', f1, f2⟩ := fin W' hh hb
        exact ⟨_, ρ', rfl, f1, f2⟩
end Go.Proofs.Ytcgoaicifjndpaa.Vx
