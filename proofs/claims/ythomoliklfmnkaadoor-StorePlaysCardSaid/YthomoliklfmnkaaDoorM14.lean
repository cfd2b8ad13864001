/- What all proofs of this seat share: a block of cells that is known whole, and frames. -/
import Derived.Test.YthomoliklfmnkaaDoorRows
import Derived.WalkKit
import Derived.WalkSpells
import Derived.WalkLawsBesides
import Derived.Deep.QuietTactic
import Derived.BigQuiet
import Derived.Lib.Hide
import Derived.ProofKit
import Derived.OpenShut
import Derived.Test.YthomoliklfmnkaaDoorVxFrame
import Derived.Lib.AppendZerosOnto
import Derived.Lib.Overlaps
import Derived.Laws.Externs
import Derived.Laws.CopyRow
import Derived.Deep.AppendSrc
import Derived.Lib.JoinLaws
import Derived.Lib.SliceRun
import Derived.Lib.AppendZeros
import Derived.Deep.RegionLaw
import Derived.Shelf.RegionOpenPlain
import Derived.Test.YthomoliklfmnkaaDoorM7
section
namespace Go.Proofs.YthomoliklfmnkaaDoor
open Go.RowKit
set_option linter.unusedVariables false


section
variable {w w' : World} {g : Nat} {t : TypeId} {cs : Array Value}
end




theorem ret_bool {a b : Bool} (h : a = b) : Ending.returned (.bool a) = .returned (.bool b) := by rw [h]

section
open Go.ChangeShapes Go.WideShapes Go.ChangeAt
variable {H : Type} {enc : TypeId × Value → H} {P : Program} {w : World} {base : Nat}
end










end Go.Proofs.YthomoliklfmnkaaDoor
end

section
/- slices.Insert at pairs: one pair laid in at a place of an own row, by the kit's walker. -/
namespace Go.Proofs.YthomoliklfmnkaaDoor.Vx
open Go.RowKit Go.Lib
set_option linter.unusedVariables false
set_option linter.unusedSimpArgs false
theorem run_copy_rowN {P : Program} (w : World) (dT sT ty elem : TypeId) (g o dLen dCap : Nat) (a : Addr) (sLen sCap : Nat) (cur : Array Value) (t : TypeId) (cs : List Value) (sz : Nat)
    (hu : P.underlying dT = some (.slice elem)) (hs : (P.info? elem).map (·.size) = some sz)
    (hg : w.heap[g]? = some (.cells cur t (0, 0))) (hn : cs.length = Nat.min sLen dLen * sz)
    (hsrc : ∀ j v, cs[j]? = some v → w.cell? (a.add j) = some v) (hfit : o + cs.length ≤ cur.size) (h1 : ∀ v ∈ cs, v.oneCell' = true) :
    (Builtin.copy_ #[dT, sT] ty #[.slice (some ⟨g, o, none⟩) dLen dCap, .slice (some a) sLen sCap]).run P w =
      .ok (goInt (Nat.min sLen dLen)) (w.setRow g (cur.toList.take o ++ cs ++ cur.toList.drop (o + cs.length)).toArray) := by
  have hl := run_loadCells_list (P := P) w a cs hsrc
  have hst := run_storeCells_at P g o t cs 0 cur w hg (by simpa using hfit) h1
  cases hq : P.info? elem with
  | none => simp [hq] at hs
  | some i =>
    have hi : i.size = sz := by simpa [hq] using hs
    simp [Builtin.copy_, run_underlying hu, Builtin.lenOf, Builtin.firstCells, sizeOf, typeInfo, hq, hi, ← hn, hl, hst]
theorem step_copy_runJ {P : Program} {ops : Array Oper} {o : Oper} {a : Act} {w : World} {K : Act → World → Prop} {Q : Exit → Act → World → Prop} {E : Prop}
    (hg : o.guard = none) (d x : Operand) (dT sT : TypeId) (hop : o.op = Op.call { callee := Callee.builtin Builtin.copy, args := #[d, x], argTypes := #[dT, sT] })
    (v u : Value) (hd : a.eval d = v) (hx : a.eval x = u) {v' : Value} {w' : World} (hr : (Builtin.copy_ #[dT, sT] o.type #[v, u]).run P w = .ok v' w') (hK : K (a.put o.dst v') w') :
    if Region.wanted o (yielded ops a.tmps) = true then Oper.wp P o a w K Q else E := by
  have hw : Region.wanted o (yielded ops a.tmps) = true := by simp [Region.wanted, hg]
  rw [if_pos hw]
  unfold Oper.wp
  simp [execOp, hop, resolve, invoke, builtin, hd, hx, hr, Result.andThen]
  exact hK
/-- A row into which something was laid. -/
def insL (xs vs : List Value) (o : Nat) : List Value := xs.take o ++ vs ++ xs.drop o
set_option maxRecDepth 100000 in
set_option maxHeartbeats 4000000 in
/-- At the end. -/
theorem insEnd (W : World) (v : Value) (n vb : Nat) (xs vs : List Value) (hown : W.ownsRow 0 63 2 v n xs) (hn : n ≤ 1000000) (hvl : vs.length = 2) (hone : ∀ u ∈ vs, u.oneCell' = true)
    (hvs : ∀ j u, vs[j]? = some u → W.cell? ⟨vb, j, none⟩ = some u) {i0 : TypeInfo} {z0 : Value} (hi0 : Tryd.prog.info? 63 = some i0) (hz0 : i0.zero = some z0) (hsz : i0.size = 2) (hby : i0.bytes = 32) (hzs : z0.cells.size = 2) :
    Calls Tryd.prog 100 #[v, .int .i64 (n : Int), .slice (some ⟨vb, 0, none⟩) 1 1] W fun e W' => ∃ v', e = .returned v' ∧ W'.ownsRow 0 63 2 v' (n + 1) (xs ++ vs) ∧ W.grownBy W' v.ownBlock ∧ (∀ b, v'.ownBlock = some b → v.ownBlock = some b ∨ W.heap.size ≤ b) := by
  obtain ⟨v', W', h1, h2, h3, h4⟩ := run_append_one (P := Tryd.prog) (t := 0) Tryd.underlying31 hi0 hz0 hsz hby hzs (by omega) hown ⟨by unfold maxLen; omega, by omega⟩ (ad := ⟨vb, 0, none⟩) (c := 1) (us := vs) hvl (fun j u hj => by rw [addr_add, Nat.zero_add]; exact hvs j u hj) hone
  have hrun : ∀ ty, (Builtin.append_ #[31, 31] ty #[v, .slice (some ⟨vb, 0, none⟩) 1 1]).run Tryd.prog W = .ok v' W' := fun ty => h1
  obtain ⟨a, cap, hv⟩ : ∃ a cap, v = .slice a n cap := by
    rcases hown.2 with ⟨e1, e2⟩ | ⟨g, cap, cur, e1, _⟩
    · exact ⟨none, 0, by rw [e1, e2]⟩
    · exact ⟨_, cap, e1⟩
  have hcap : n ≤ cap := by
    rcases hown.2 with ⟨e1, e2⟩ | ⟨g, c, cur, e1, _, _, h, _⟩
    · rw [hv] at e1; cases e1; omega
    · rw [hv] at e1; cases e1; exact h
  subst hv
  clear h1
  go_enter Tryd.func100, Tryd.ntmps100
  go_wp2_with (at_builtin; refine Lib.wpList_append_run _ rfl _ _ _ _ rfl _ _ rfl rfl _ _ (hrun _) ?_)
  all_goals go_ret
  all_goals first | exact ⟨_, rfl, h2, h3, h4⟩ | (subst_vars; exact ⟨_, rfl, h2, h3, h4⟩)
set_option maxRecDepth 100000 in
set_option maxHeartbeats 8000000 in
/-- There is room: in place. -/
theorem insRoom (W : World) (g n cap i vb : Nat) (cur : Array Value) (vs : List Value) (hi : i < n) (hroom : n + 1 ≤ cap) (hcm : cap ≤ 9223372036854775807) (hn : n ≤ 1000000) (hh : W.heap[g]? = some (.cells cur 63 (0, 0))) (hcs : cur.size = cap * 2)
    (h1c : ∀ u ∈ cur.toList.take (n * 2), u.oneCell' = true) (hvb : vb ≠ g) (hvh : W.heap[vb]? = some (.cells vs.toArray 63 (0, 0))) (hvl : vs.length = 2) (hone : ∀ u ∈ vs, u.oneCell' = true)
    {i0 : TypeInfo} (hi0 : Tryd.prog.info? 63 = some i0) (hsz : i0.size = 2) :
    Calls Tryd.prog 100 #[.slice (some ⟨g, 0, none⟩) n cap, .int .i64 (i : Int), .slice (some ⟨vb, 0, none⟩) 1 1] W fun e W' => e = .returned (.slice (some ⟨g, 0, none⟩) (n + 1) cap) ∧ W.grownBy W' (some g) ∧
      ∃ cur2 : Array Value, W'.heap[g]? = some (.cells cur2 63 (0, 0)) ∧ cur2.size = cap * 2 ∧ cur2.toList.take ((n + 1) * 2) = insL (cur.toList.take (n * 2)) vs (i * 2) := by
  have hs2 : (Tryd.prog.info? 63).map (·.size) = some 2 := by rw [hi0]; simp [hsz]
  obtain ⟨cur1, hcur1⟩ : ∃ c : Array Value, c = (cur.toList.take ((i + 1) * 2) ++ (cur.toList.take (n * 2)).drop (i * 2) ++ cur.toList.drop ((i + 1) * 2 + ((cur.toList.take (n * 2)).drop (i * 2)).length)).toArray := ⟨_, rfl⟩
  have hdl : ((cur.toList.take (n * 2)).drop (i * 2)).length = (n - i) * 2 := by
    rw [List.length_drop, List.length_take, Array.length_toList, hcs]
    have : n * 2 ≤ cap * 2 := Nat.mul_le_mul_right 2 (by omega)
    rw [Nat.min_eq_left this, Nat.sub_mul]
  have hs1 : cur1.size = cap * 2 := by
    rw [hcur1]
    simp only [List.size_toArray, List.length_append, hdl]
    rw [List.length_take, List.length_drop, Array.length_toList, hcs]
    omega
  have hcell : ∀ (W0 : World), W0.heap = W.heap → ∀ k u, cur.toList[k]? = some u → W0.cell? ⟨g, k, none⟩ = some u := fun W0 h0 k u hk => by
    rw [cell_of_row W0 g k cur 63 (0, 0) (by rw [h0]; exact hh)]
    rw [← hk, Array.getElem?_toList]
  have hcp1 : ∀ (W0 : World), W0.heap = W.heap → ∀ ty dc sc, (Builtin.copy_ #[31, 31] ty #[.slice (some ⟨g, (i + 1) * 2, none⟩) (n - i) dc, .slice (some ⟨g, i * 2, none⟩) (n + 1 - i) sc]).run Tryd.prog W0 = .ok (goInt (Nat.min (n + 1 - i) (n - i))) (W0.setRow g cur1) := fun W0 h0 ty dc sc => by
    rw [hcur1]
    refine run_copy_rowN W0 _ _ ty 63 g ((i + 1) * 2) _ dc ⟨g, i * 2, none⟩ _ sc cur 63 _ 2 Tryd.underlying31 hs2 (by rw [h0]; exact hh) ?_ (fun j u hj => ?_) ?_ (fun u hu => h1c u (List.mem_of_mem_drop hu))
    · rw [hdl]
      congr 1
      simp only [Nat.min_def]
      split <;> omega
    · rw [addr_add]
      refine hcell W0 h0 _ u ?_
      rw [List.getElem?_drop] at hj
      rw [List.getElem?_take] at hj
      split at hj
      · exact hj
      · cases hj
    · rw [hdl, hcs]
      omega
  obtain ⟨cur2, hcur2⟩ : ∃ c : Array Value, c = (cur1.toList.take (i * 2) ++ vs ++ cur1.toList.drop (i * 2 + vs.length)).toArray := ⟨_, rfl⟩
  have hcp2 : ∀ (W0 : World), W0.heap = (W.setRow g cur1).heap → ∀ ty dc, (Builtin.copy_ #[31, 31] ty #[.slice (some ⟨g, i * 2, none⟩) (n + 1 - i) dc, .slice (some ⟨vb, 0, none⟩) 1 1]).run Tryd.prog W0 = .ok (goInt (Nat.min 1 (n + 1 - i))) (W0.setRow g cur2) := fun W0 h0 ty dc => by
    rw [hcur2]
    have hv0 : W0.heap[vb]? = some (.cells vs.toArray 63 (0, 0)) := by
      rw [h0, setRow_other _ _ _ _ hvb]
      exact hvh
    refine run_copy_rowN W0 _ _ ty 63 g (i * 2) _ dc ⟨vb, 0, none⟩ 1 1 cur1 63 vs 2 Tryd.underlying31 hs2 (by rw [h0]; exact setRow_heap _ _ cur _ _ (0, 0) hh) ?_ (fun j u hj => ?_) ?_ hone
    · rw [hvl, show Nat.min 1 (n + 1 - i) = 1 by simp only [Nat.min_def]; split <;> omega]
    · rw [addr_add, Nat.zero_add, cell_of_row W0 vb j vs.toArray 63 (0, 0) hv0]
      simpa using hj
    · rw [hvl, hs1]
      omega
  have hfin : cur2.size = cap * 2 ∧ cur2.toList.take ((n + 1) * 2) = insL (cur.toList.take (n * 2)) vs (i * 2) := by
    have hc1l : cur1.toList.length = cap * 2 := by rw [Array.length_toList, hs1]
    refine ⟨?_, ?_⟩
    · rw [hcur2]
      simp only [List.size_toArray, List.length_append, List.length_take, List.length_drop, hc1l, hvl]
      omega
    · have hxl : (cur.toList.take (n * 2)).length = n * 2 := by rw [List.length_take, Array.length_toList, hcs]; omega
      have e1 : cur1.toList = cur.toList.take ((i + 1) * 2) ++ ((cur.toList.take (n * 2)).drop (i * 2) ++ cur.toList.drop ((i + 1) * 2 + (n - i) * 2)) := by
        rw [hcur1, hdl, List.toList_toArray, List.append_assoc]
      have e2 : cur1.toList.take (i * 2) = (cur.toList.take (n * 2)).take (i * 2) := by
        rw [e1, List.take_append_of_le_length (by rw [List.length_take, Array.length_toList, hcs]; omega), List.take_take, List.take_take]
        congr 1
        omega
      have e3 : cur1.toList.drop (i * 2 + vs.length) = (cur.toList.take (n * 2)).drop (i * 2) ++ cur.toList.drop ((i + 1) * 2 + (n - i) * 2) := by
        have hl : (cur.toList.take ((i + 1) * 2)).length = i * 2 + vs.length := by rw [List.length_take, Array.length_toList, hcs, hvl]; omega
        rw [e1, ← hl, List.drop_left]
      rw [hcur2, List.toList_toArray, e2, e3]
      unfold insL
      have hl2 : (((cur.toList.take (n * 2)).take (i * 2) ++ vs) ++ (cur.toList.take (n * 2)).drop (i * 2)).length = (n + 1) * 2 := by
        rw [List.length_append, List.length_append, hdl, List.length_take, hxl, hvl]
        omega
      rw [← List.append_assoc, ← hl2, List.take_left]
  clear hcur2
  have hov : ∀ lb cb, (callFunc 137 #[.slice (some ⟨vb, 0, none⟩) 1 1, .slice (some ⟨g, (i + 1) * 2, none⟩) lb cb]).run Tryd.prog W = .ok (.value (.bool false)) W := fun lb cb => by
    rw [run_callFunc_extern Tryd.func137 (by kernel_rfl) (by kernel_rfl) (by kernel_rfl) (e := Extern.SlicesOverlaps.overlaps #[31, 31] #[4]) (by kernel_rfl),
      Lib.run_overlaps_apart W 31 4 63 Tryd.underlying31 2 (fun w => by simp [sizeOf, typeInfo, hi0, hsz]) ⟨vb, 0, none⟩ ⟨g, (i + 1) * 2, none⟩ 1 1 lb cb hvb 63 63 2 (cap * 2) (by simp [World.shape?, hvh, hvl]) (by simp [World.shape?, hh, hcs]) (by omega) (by simp [World.frozen?, hvh]) (by simp [World.frozen?, hvh])]
    rfl
  have hz2 : ¬ ((i : Int) = (n : Int)) := by omega
  have hz3 : ¬ ((cap : Int) < (n : Int) + 1) := by omega
  have hw1 : IntKind.i64.wrap ((i : Int) + 1) = (i : Int) + 1 := by rw [IntKind.wrap_i64]; omega
  have hw2 : IntKind.i64.wrap ((n : Int) + 1) = (n : Int) + 1 := by rw [IntKind.wrap_i64]; omega
  have hb1 : (0 : Int) ≤ (i : Int) + 1 := by omega
  have htn : ((i : Int) + 1).toNat = i + 1 := by omega
  have hb2 : ¬ (cap = i + 1) := by omega
  have hb4 : ¬ (cap = i) := by omega
  have hb3 : (i : Int) ≤ (n : Int) + 1 := by omega
  have hin : i ≤ n := by omega
  clear hcell hcur1
  have mixed : Tryd.prog.follows .mixedOrders = true := by kernel_rfl
  go_enter Tryd.func100, Tryd.ntmps100
  go_wp2_with (simp only [hov])
  go_region_law_o (refine step_copy_runJ rfl _ _ 31 31 rfl (.slice (some ⟨g, (i + 1) * 2, none⟩) (n - i) (cap - (i + 1))) (.slice (some ⟨g, i * 2, none⟩) (n + 1 - i) (cap - i)) (by simp [Act.eval, Act.put]) (by simp [Act.eval, Act.put]) (hcp1 W.drew rfl _ _ _) ?_)
  have hcp2w := fun ty dc => hcp2 (W.drew.setRow g cur1) rfl ty dc
  go_wp2
  go_ret
  refine ⟨rfl, ?_, cur2, ?_, hfin.1, hfin.2⟩
  · exact ⟨rfl, rfl, rfl, by simp [World.setRow], fun k hk hne => by
      have hkg : k ≠ g := fun e => hne (by rw [e])
      rw [setRow_other _ _ _ _ hkg]
      exact setRow_other _ _ _ _ hkg⟩
  · exact setRow_heap _ _ cur1 _ _ (0, 0) (setRow_heap _ _ cur _ _ (0, 0) hh)
set_option maxRecDepth 100000 in
set_option maxHeartbeats 8000000 in
/-- There is no room: a new row. -/
theorem insGrow (W : World) (g n i vb : Nat) (cur : Array Value) (vs : List Value) (hi : i < n) (hn : n ≤ 1000000) (hh : W.heap[g]? = some (.cells cur 63 (0, 0))) (hcs : cur.size = n * 2)
    (h1c : ∀ u ∈ cur.toList.take (n * 2), u.oneCell' = true) (hvh : W.heap[vb]? = some (.cells vs.toArray 63 (0, 0))) (hvl : vs.length = 2) (hone : ∀ u ∈ vs, u.oneCell' = true)
    {i0 : TypeInfo} {z0 : Value} (hi0 : Tryd.prog.info? 63 = some i0) (hz0 : i0.zero = some z0) (hsz : i0.size = 2) (hby : i0.bytes = 32) (hzs : z0.cells.size = 2) :
    Calls Tryd.prog 100 #[.slice (some ⟨g, 0, none⟩) n n, .int .i64 (i : Int), .slice (some ⟨vb, 0, none⟩) 1 1] W fun e W' => ∃ G, e = .returned (.slice (some ⟨W.heap.size, 0, none⟩) (n + 1) G) ∧ W.grownBy W' none ∧ n + 1 ≤ G ∧ G ≤ maxLen ∧
      ∃ cur2 : Array Value, W'.heap[W.heap.size]? = some (.cells cur2 63 (0, 0)) ∧ cur2.size = G * 2 ∧ cur2.toList.take ((n + 1) * 2) = insL (cur.toList.take (n * 2)) vs (i * 2) := by
  have hs2 : (Tryd.prog.info? 63).map (·.size) = some 2 := by rw [hi0]; simp [hsz]
  have hgl : g < W.heap.size := (Array.getElem?_eq_some_iff.1 hh).1
  have hvl2 : vb < W.heap.size := (Array.getElem?_eq_some_iff.1 hvh).1
  have hcl : cur.toList.length = n * 2 := by rw [Array.length_toList, hcs]
  have hxe : cur.toList.take (n * 2) = cur.toList := List.take_of_length_le (by omega)
  rw [hxe] at h1c ⊢
  have hold : (Builtin.firstCells i0.size i (.slice (some ⟨g, 0, none⟩) i n)).run Tryd.prog W.drew = .ok (cur.toList.take (i * 2)).toArray W.drew := by
    rw [hsz]
    refine run_firstCells_some W.drew 2 i ⟨g, 0, none⟩ i n (cur.toList.take (i * 2)) (by rw [List.length_take, hcl]; omega) fun j v hj => ?_
    rw [addr_add, Nat.zero_add, cell_of_row W.drew g j cur 63 (0, 0) hh]
    rw [List.getElem?_take] at hj
    split at hj
    · rw [← hj, Array.getElem?_toList]
    · cases hj
  have hkk : (n : Int) + 1 - (i : Int) = ((n + 1 - i : Nat) : Int) := by omega
  have hik : i + (n + 1 - i) = n + 1 := by omega
  obtain ⟨G, hG⟩ : ∃ G, G = grownCap W (n + 1) n 63 := ⟨_, rfl⟩
  obtain ⟨ROW, hROW⟩ : ∃ ROW : Array Value, ROW = (cur.toList.take (i * 2)).toArray ++ Builtin.zeroCells z0.cells (n + 1 - i) ++ Builtin.zeroCells z0.cells (G - (n + 1)) := ⟨_, rfl⟩
  have hrz : ∀ ty, (Builtin.append_ #[31, 3] ty #[.slice (some ⟨g, 0, none⟩) i n, .int .i64 ((n : Int) + 1 - (i : Int))]).run Tryd.prog W = .ok (.slice (some ⟨W.heap.size, 0, none⟩) (n + 1) G) (W.drew.alloc (.cells ROW 63)) := fun ty => by
    have h := Lib.run_append_grow_zeros W 31 3 ty 63 i0 z0 .i64 .i64 Tryd.underlying31 Tryd.underlying3 hi0 hz0 (some ⟨g, 0, none⟩) i n (cur.toList.take (i * 2)) hold (n + 1 - i) (by omega) (by omega) (by omega) (by omega) (by rw [hby]; omega) (by rw [hby, hik]; exact growslice_fits (by omega) (by omega))
    rw [hik] at h
    rw [hkk, hROW, hG]
    exact h
  have hGn : n + 1 ≤ G := by rw [hG]; exact grownCap_ge W _ _ _
  have hGm : G ≤ maxLen := by rw [hG]; exact grownCap_le_maxLen W (n + 1) n _ (by unfold maxLen; omega)
  have hRs : ROW.size = G * 2 := by
    rw [hROW]
    simp only [Array.size_append, size_zeroCells, hzs, List.size_toArray, List.length_take, hcl]
    omega
  have hRt : ROW.toList.take (i * 2) = cur.toList.take (i * 2) := by
    rw [hROW]
    simp only [Array.toList_append, List.append_assoc]
    rw [List.take_append_of_le_length (by rw [List.toList_toArray, List.length_take, hcl]; omega), List.toList_toArray, List.take_take]
    congr 1
    omega
  obtain ⟨R1, hR1⟩ : ∃ c : Array Value, c = (ROW.toList.take (i * 2) ++ vs ++ ROW.toList.drop (i * 2 + vs.length)).toArray := ⟨_, rfl⟩
  have hR1s : R1.size = G * 2 := by
    rw [hR1]
    simp only [List.size_toArray, List.length_append, List.length_take, List.length_drop, Array.length_toList, hRs, hvl]
    omega
  obtain ⟨R2, hR2⟩ : ∃ c : Array Value, c = (R1.toList.take ((i + 1) * 2) ++ cur.toList.drop (i * 2) ++ R1.toList.drop ((i + 1) * 2 + (cur.toList.drop (i * 2)).length)).toArray := ⟨_, rfl⟩
  have hdl : (cur.toList.drop (i * 2)).length = (n - i) * 2 := by rw [List.length_drop, hcl, Nat.sub_mul]
  have hfin : R2.size = G * 2 ∧ R2.toList.take ((n + 1) * 2) = insL cur.toList vs (i * 2) := by
    have hl1 : R1.toList.length = G * 2 := by rw [Array.length_toList, hR1s]
    refine ⟨?_, ?_⟩
    · rw [hR2]
      simp only [List.size_toArray, List.length_append, List.length_take, List.length_drop, hl1, hcl]
      omega
    · have e1 : R1.toList.take ((i + 1) * 2) = cur.toList.take (i * 2) ++ vs := by
        rw [hR1, List.toList_toArray, hRt]
        have hl : (cur.toList.take (i * 2) ++ vs).length = (i + 1) * 2 := by rw [List.length_append, List.length_take, hcl, hvl]; omega
        rw [← hl, List.take_left]
      rw [hR2, List.toList_toArray, e1]
      unfold insL
      have hl2 : ((cur.toList.take (i * 2) ++ vs) ++ cur.toList.drop (i * 2)).length = (n + 1) * 2 := by
        rw [List.length_append, List.length_append, hdl, List.length_take, hcl, hvl]
        omega
      rw [← hl2, List.take_left]
  obtain ⟨W1, hW1⟩ : ∃ W1, W1 = W.drew.alloc (.cells ROW 63) := ⟨_, rfl⟩
  have hnew : W1.heap[W.heap.size]? = some (.cells ROW 63 (0, 0)) := by rw [hW1]; exact heap_alloc_new W.drew _
  have hW1s : W1.heap.size = W.heap.size + 1 := by rw [hW1]; show (W.heap.push _).size = _; exact Array.size_push _
  have hos : W1.os = W.os ∧ W1.tape = W.tape ∧ W1.output = W.output := by rw [hW1]; exact ⟨rfl, rfl, rfl⟩
  have hkeep : ∀ k, k < W.heap.size → W1.heap[k]? = W.heap[k]? := fun k hk => by rw [hW1]; exact Below.heap_alloc W.drew _ k hk
  have hcpA : ∀ (W0 : World), W0.heap = W1.heap → ∀ ty dc, (Builtin.copy_ #[31, 31] ty #[.slice (some ⟨W.heap.size, i * 2, none⟩) (n + 1 - i) dc, .slice (some ⟨vb, 0, none⟩) 1 1]).run Tryd.prog W0 = .ok (goInt (Nat.min 1 (n + 1 - i))) (W0.setRow W.heap.size R1) := fun W0 h0 ty dc => by
    rw [hR1]
    have hv0 : W0.heap[vb]? = some (.cells vs.toArray 63 (0, 0)) := by rw [h0, hkeep vb hvl2]; exact hvh
    refine run_copy_rowN W0 _ _ ty 63 W.heap.size (i * 2) _ dc ⟨vb, 0, none⟩ 1 1 ROW 63 vs 2 Tryd.underlying31 hs2 (by rw [h0]; exact hnew) ?_ (fun j u hj => ?_) ?_ hone
    · rw [hvl, show Nat.min 1 (n + 1 - i) = 1 by simp only [Nat.min_def]; split <;> omega]
    · rw [addr_add, Nat.zero_add, cell_of_row W0 vb j vs.toArray 63 (0, 0) hv0]
      simpa using hj
    · rw [hvl, hRs]
      omega
  have hcpB : ∀ (W0 : World), W0.heap = (W1.setRow W.heap.size R1).heap → ∀ ty dc sc, (Builtin.copy_ #[31, 31] ty #[.slice (some ⟨W.heap.size, (i + 1) * 2, none⟩) (n - i) dc, .slice (some ⟨g, i * 2, none⟩) (n - i) sc]).run Tryd.prog W0 = .ok (goInt (Nat.min (n - i) (n - i))) (W0.setRow W.heap.size R2) := fun W0 h0 ty dc sc => by
    rw [hR2]
    have hg0 : W0.heap[g]? = some (.cells cur 63 (0, 0)) := by
      rw [h0, setRow_other _ _ _ _ (by omega), hkeep g hgl]
      exact hh
    refine run_copy_rowN W0 _ _ ty 63 W.heap.size ((i + 1) * 2) _ dc ⟨g, i * 2, none⟩ _ sc R1 63 _ 2 Tryd.underlying31 hs2 (by rw [h0]; exact setRow_heap _ _ ROW _ _ (0, 0) hnew) ?_ (fun j u hj => ?_) ?_ (fun u hu => h1c u (List.mem_of_mem_drop hu))
    · rw [hdl]
      congr 1
      simp
    · rw [addr_add, cell_of_row W0 g _ cur 63 (0, 0) hg0]
      rw [List.getElem?_drop] at hj
      rw [← hj, Array.getElem?_toList]
    · rw [hdl, hR1s]
      omega
  have hz2 : ¬ ((i : Int) = (n : Int)) := by omega
  have hz3 : (n : Int) < (n : Int) + 1 := by omega
  have hw1 : IntKind.i64.wrap ((i : Int) + 1) = (i : Int) + 1 := by rw [IntKind.wrap_i64]; omega
  have hw2 : IntKind.i64.wrap ((n : Int) + 1) = (n : Int) + 1 := by rw [IntKind.wrap_i64]; omega
  have hw3 : IntKind.i64.wrap ((n : Int) + 1 - (i : Int)) = (n : Int) + 1 - (i : Int) := by rw [IntKind.wrap_i64]; omega
  have hb1 : (0 : Int) ≤ (i : Int) + 1 := by omega
  have htn : ((i : Int) + 1).toNat = i + 1 := by omega
  have hb2 : ¬ (G = i + 1) := by omega
  have hb4 : ¬ (G = i) := by omega
  have hb5 : ¬ (n = i) := by omega
  have hb3 : (i : Int) ≤ (n : Int) + 1 := by omega
  have hin : i ≤ n := by omega
  rw [← hW1] at hrz
  clear hR1 hR2 hROW hG hW1 hold hkk hik
  have mixed : Tryd.prog.follows .mixedOrders = true := by kernel_rfl
  have hcpAw := fun ty dc => hcpA W1 rfl ty dc
  go_enter Tryd.func100, Tryd.ntmps100
  go_wp2_with (at_builtin; refine Lib.wpList_append_run _ rfl _ _ _ _ rfl _ _ rfl rfl _ _ (hrz _) ?_)
  go_region_law_o (refine step_copy_runJ rfl _ _ 31 31 rfl (.slice (some ⟨W.heap.size, (i + 1) * 2, none⟩) (n - i) (G - (i + 1))) (.slice (some ⟨g, i * 2, none⟩) (n - i) (n - i)) (by simp [Act.eval, Act.put]) (by simp [Act.eval, Act.put]) (hcpB (W1.setRow W.heap.size R1).drew rfl _ _ _) ?_)
  go_wp2
  go_ret
  have hsz1 : W1.heap.size = W.heap.size + 1 := by
    have h1 := (Array.getElem?_eq_some_iff.1 hnew).1
    have h2 := hW1s
    exact h2
  refine ⟨G, rfl, ?_, hGn, hGm, R2, ?_, hfin.1, hfin.2⟩
  · refine ⟨hos.1, hos.2.1, hos.2.2, by simp [World.setRow, hsz1], fun k hk hne => ?_⟩
    rw [setRow_other _ _ _ _ (by omega)]
    exact (setRow_other _ _ _ _ (by omega)).trans (hkeep k hk)
  · exact setRow_heap _ _ R1 _ _ (0, 0) (setRow_heap _ _ ROW _ _ (0, 0) hnew)
end Go.Proofs.YthomoliklfmnkaaDoor.Vx
end

section
/- slices.Insert at pairs: its contract. -/
namespace Go.Proofs.YthomoliklfmnkaaDoor.Vx
open Go.RowKit
set_option linter.unusedVariables false
set_option linter.unusedSimpArgs false
def tbPa : Tbl where
  T :=
    (63, ⟨2, true, [.str [], .str []], .struct [(0, (1, false)), (1, (1, false))], 32⟩) ::
    []
  F := []
theorem tbPa_ok : tbPa.Ok Tryd.prog where
  T := TblOk.cons (by kernel_rfl) <| TblOk.nil _
  F := FlatsOk.nil _
theorem insWalk (W : World) (v : Value) (n i vb : Nat) (xs vs : List Value) (hown : W.ownsRow 0 63 2 v n xs) (hi : i ≤ n) (hn : n ≤ 1000000) (h1c : ∀ u ∈ xs, u.oneCell' = true) (hvb : v.ownBlock ≠ some vb)
    (hvh : W.heap[vb]? = some (.cells vs.toArray 63 (0, 0))) (hvl : vs.length = 2) (hone : ∀ u ∈ vs, u.oneCell' = true) :
    Calls Tryd.prog 100 #[v, .int .i64 (i : Int), .slice (some ⟨vb, 0, none⟩) 1 1] W fun e W' => ∃ v', e = .returned v' ∧ W'.ownsRow 0 63 2 v' (n + 1) (insL xs vs (i * 2)) ∧ W.grownBy W' v.ownBlock ∧ (∀ b, v'.ownBlock = some b → v.ownBlock = some b ∨ W.heap.size ≤ b) := by
  obtain ⟨i1, d1, z1, T1⟩ := TI.spec (tbPa_ok.T 63 _ rfl)
  have hxl := hown.1
  by_cases hin : i = n
  · subst hin
    refine Calls.mono (insEnd W v i vb xs vs hown hn hvl hone (fun j u hj => ?_) T1.info T1.zero T1.size T1.bytes T1.zsize) fun e W' he => ?_
    · rw [cell_of_row W vb j vs.toArray 63 (0, 0) hvh]
      simpa using hj
    · obtain ⟨v', h1, h2, h3, h4⟩ := he
      refine ⟨v', h1, ?_, h3, h4⟩
      unfold insL
      rw [List.take_of_length_le (by omega), List.drop_eq_nil_of_le (by omega), List.append_nil]
      exact h2
  · rcases hown.2 with ⟨hv, hn0⟩ | ⟨g, cap, cur, hv, _, hh, hc1, hc2, hc3, hc4⟩
    · omega
    · subst hv
      have hvb' : vb ≠ g := fun e => hvb (by rw [e]; rfl)
      by_cases hroom : n + 1 ≤ cap
      · refine Calls.mono (insRoom W g n cap i vb cur vs (by omega) hroom (by unfold maxLen at hc2; exact hc2) hn hh hc3 (by rw [hc4]; exact h1c) hvb' hvh hvl hone T1.info T1.size) fun e W' he => ?_
        obtain ⟨h1, h2, cur2, h3, h4, h5⟩ := he
        rw [hc4] at h5
        refine ⟨_, h1, ⟨?_, Or.inr ⟨g, cap, cur2, rfl, Nat.zero_le _, h3, hroom, hc2, h4, h5⟩⟩, h2, fun b hb => Or.inl hb⟩
        unfold insL
        rw [List.length_append, List.length_append, List.length_take, List.length_drop, hvl]
        omega
      · have hcn : cap = n := by omega
        subst hcn
        refine Calls.mono (insGrow W g cap i vb cur vs (by omega) hn hh hc3 (by rw [hc4]; exact h1c) hvh hvl hone T1.info T1.zero T1.size T1.bytes T1.zsize) fun e W' he => ?_
        obtain ⟨G, h1, h2, h3, h4, cur2, h5, h6, h7⟩ := he
        rw [hc4] at h7
        refine ⟨_, h1, ⟨?_, Or.inr ⟨W.heap.size, G, cur2, rfl, Nat.zero_le _, h5, h3, h4, h6, h7⟩⟩, ⟨h2.os, h2.tape, h2.output, h2.size, fun k hk _ => h2.block k hk (by simp)⟩, fun b hb => Or.inr (by cases hb; exact Nat.le_refl _)⟩
        unfold insL
        rw [List.length_append, List.length_append, List.length_take, List.length_drop, hvl]
        omega
/-- An element laid in. -/
def insG (get : Nat → List CV) (i : Nat) (cs : List CV) (j : Nat) : List CV := match Nat.blt j i with
  | true => get j
  | false => match Nat.beq j i with
    | true => cs
    | false => get (j - 1)
theorem insG_lt {get : Nat → List CV} {i j : Nat} {cs : List CV} (h : j < i) : insG get i cs j = get j := by
  unfold insG
  rw [show Nat.blt j i = true from by rw [Nat.blt_eq]; exact h]
theorem insG_eq {get : Nat → List CV} {i : Nat} {cs : List CV} : insG get i cs i = cs := by
  unfold insG
  have : Nat.blt i i = false := by
    cases h : Nat.blt i i
    · rfl
    · rw [Nat.blt_eq] at h; omega
  rw [this]
  simp
theorem insG_gt {get : Nat → List CV} {i j : Nat} {cs : List CV} (h : i < j) : insG get i cs j = get (j - 1) := by
  unfold insG
  have h1 : Nat.blt j i = false := by
    cases h2 : Nat.blt j i
    · rfl
    · rw [Nat.blt_eq] at h2; omega
  have h2 : Nat.beq j i = false := by
    cases h3 : Nat.beq j i
    · rfl
    · have := Nat.eq_of_beq_eq_true h3; omega
  rw [h1, h2]
theorem row_ins {W' : World} {e : TypeId} {n i : Nat} {get : Nat → List CV} {cs : List CV} {v' : Value} {xs us : List Value} (hxl : xs.length = n * 2) (hg : ∀ j, j < n → IsL [] (get j) ((xs.drop (j * 2)).take 2)) (hc : IsL [] cs us) (hul : us.length = 2) (hi : i ≤ n)
    (h2 : W'.ownsRow 0 e 2 v' (n + 1) (insL xs us (i * 2))) (ρ : List Pl) : Ent.ok ρ ⟨v'.ownBlock.getD 0, v', 0⟩ W' (.row e 2 (n + 1) (insG get i cs)) := by
  refine ⟨insL xs us (i * 2), ⟨fun j hj => ?_, rfl, fun g hg' => ?_⟩, h2⟩
  · have hl1 : (xs.take (i * 2)).length = i * 2 := by rw [List.length_take]; omega
    unfold insL
    rw [List.append_assoc]
    rcases Nat.lt_trichotomy j i with h | h | h
    · rw [insG_lt h, List.drop_append_of_le_length (by omega), List.take_append_of_le_length (by rw [List.length_drop]; omega)]
      have e1 : ((xs.take (i * 2)).drop (j * 2)).take 2 = (xs.drop (j * 2)).take 2 := by
        rw [List.drop_take, List.take_take]
        congr 1
        omega
      rw [e1]
      exact hg j (by omega)
    · subst h
      rw [insG_eq, show (xs.take (j * 2) ++ (us ++ xs.drop (j * 2))).drop (j * 2) = us ++ xs.drop (j * 2) from by
        have := List.drop_left (l₁ := xs.take (j * 2)) (l₂ := us ++ xs.drop (j * 2))
        rw [hl1] at this
        exact this, ← hul, List.take_left]
      exact hc
    · rw [insG_gt h]
      have e1 : (xs.take (i * 2) ++ (us ++ xs.drop (i * 2))).drop (j * 2) = xs.drop ((j - 1) * 2) := by
        rw [← List.append_assoc]
        have hl2 : (xs.take (i * 2) ++ us).length = i * 2 + 2 := by rw [List.length_append, hl1, hul]
        rw [List.drop_append, List.drop_eq_nil_of_le (by omega), List.nil_append, hl2, List.drop_drop]
        congr 1
        omega
      rw [e1]
      exact hg (j - 1) (by omega)
  · show g = v'.ownBlock.getD 0
    have hg' : v'.ownBlock = some g := hg'
    rw [hg']; rfl
def insPre (i : Int) (n : Nat) : Prop := 0 ≤ i ∧ i ≤ (n : Int) ∧ n ≤ 1000000
def appIns : App := fun args h => match args with
  | [.c (.row k), .c (.int .i64 i), .c (.sl j 0 1 1)] => match h[k]?, h[j]? with
    | some (.row e 2 n get), some (.cells t cs) => match Nat.beq cs.length 2 && pfs cs && Nat.beq e 63 && Nat.beq t 63 with
      | true => some ⟨insPre i n, .c (.row h.length), h.set k .dead ++ [.row 63 2 (n + 1) (insG get i.toNat cs)], [k]⟩
      | false => none
    | _, _ => none
  | _ => none
theorem insCt : CtOk Tryd.prog 100 appIns := by
  have hsp : ∀ args h r, appIns args h = some r → ∃ k i j n get cs, args = [.c (.row k), .c (.int .i64 i), .c (.sl j 0 1 1)] ∧ h[k]? = some (.row 63 2 n get) ∧ h[j]? = some (.cells 63 cs) ∧ cs.length = 2 ∧ pfs cs = true ∧ r = ⟨insPre i n, .c (.row h.length), h.set k .dead ++ [.row 63 2 (n + 1) (insG get i.toNat cs)], [k]⟩ := fun args h r hr => by
    unfold appIns at hr
    split at hr
    · split at hr
      · split at hr
        · rename_i k i j _ _ e n get t cs hk hj _ hb
          simp only [Bool.and_eq_true, Nat.beq_eq] at hb
          obtain ⟨⟨⟨b1, b2⟩, b3⟩, b4⟩ := hb
          subst b3 b4
          exact ⟨k, i, j, n, get, cs, rfl, hk, hj, b1, b2, (Option.some.inj hr).symm⟩
        · cases hr
      · cases hr
    · cases hr
  refine ⟨callable_spec (by kernel_rfl), fun args h r hr => ?_, fun args h r hr hpre w0 G ρ W us rel hus => ?_⟩
  · obtain ⟨k, i, j, n, get, cs, rfl, hk, hj, hc, hpf, rfl⟩ := hsp args h r hr
    refine ⟨by simp, fun m hm hn => ?_⟩
    have hmk : ¬ k = m := fun e => hn (by simp [e])
    rw [List.getElem?_append_left (by simpa using hm), List.getElem?_set_ne hmk]
  · obtain ⟨k, i, j, n, get, cs, rfl, hk, hj, hc, hpf, rfl⟩ := hsp args h r hr
    obtain ⟨p1, p2, p3⟩ := hpre
    obtain ⟨u0, us0, rfl, a0, u1, us1, rfl, a1, u2, us2, rfl, a2, a3⟩ := hus
    cases a3
    obtain ⟨p, hp, hu⟩ := den_row a0
    obtain ⟨pj, hpj, huj⟩ := den_sl a2
    have e1 : u1 = .int .i64 i := (Option.some.inj a1).symm
    obtain ⟨xs, ⟨g1, g2, g3⟩, hown⟩ := rel.ok k _ p hk hp
    obtain ⟨vs, q1, q2⟩ := rel.ok j _ pj hj hpj
    have hvl : vs.length = 2 := by rw [← q1.len, hc]
    have hcs : IsL [] cs vs := isL_pf hpf q1 []
    have one' : ∀ {ρ' : List Pl} {xs : List CV} {vs : List Value}, IsL ρ' xs vs → ∀ u ∈ vs, u.oneCell' = true := fun {ρ' xs vs} hx u hu => by
      obtain ⟨m, hm, hmv⟩ := List.mem_iff_getElem.1 hu
      obtain ⟨c, _, hc⟩ := hx.getr (i := m) (u := u) (by rw [List.getElem?_eq_getElem hm, hmv])
      have := CV.den_oneCell hc
      cases u <;> first | rfl | cases this
    have hone : ∀ u ∈ vs, u.oneCell' = true := one' q1
    have h1c : ∀ u ∈ xs, u.oneCell' = true := fun u hu => by
      obtain ⟨m, hm, hmv⟩ := List.mem_iff_getElem.1 hu
      have hm2 : m / 2 < n := by have := hown.1; omega
      have h3 := g1 (m / 2) hm2
      refine one' h3 u ?_
      rw [List.mem_iff_getElem?]
      refine ⟨m % 2, ?_⟩
      rw [List.getElem?_take, if_pos (Nat.mod_lt _ (by omega)), List.getElem?_drop, show m / 2 * 2 + m % 2 = m by omega, List.getElem?_eq_getElem hm, hmv]
    have hne : p.v.ownBlock ≠ some pj.b := fun e => by
      have f1 : fp ρ h k = some pj.b := by rw [fp_mk hk hp]; exact e
      have f2 : fp ρ h j = some pj.b := by rw [fp_mk hj hpj]; rfl
      have := rel.dis k j pj.b f1 f2
      subst this
      rw [hk] at hj
      cases hj
    obtain ⟨m, rfl⟩ : ∃ m : Nat, i = (m : Int) := ⟨i.toNat, by omega⟩
    have hw := insWalk W p.v n m pj.b xs vs hown (by omega) p3 h1c hne q2 hvl hone
    subst hu e1 huj
    refine Calls.mono hw fun e W' he => ?_
    obtain ⟨v', h1, h2, h3, h4⟩ := he
    have hgr := rel.growE (en := .row 63 2 (n + 1) (insG get m cs)) (q0 := ⟨v'.ownBlock.getD 0, v', 0⟩) hk hp rfl rfl (row_ins hown.1 g1 hcs hvl (by omega) h2 _) rfl (fun b hb => (World.ownsRow.lt h2 b hb).2) h3 h4
    refine ⟨v', [⟨v'.ownBlock.getD 0, v', 0⟩], h1, ?_, hgr⟩
    show CV.den _ (.row h.length) = some v'
    simp only [CV.den]
    rw [← rel.len, List.getElem?_append_right (Nat.le_refl _)]
    have h5 : one v' = true := by
      rcases h2.2 with ⟨hv, _⟩ | ⟨g, cap, cur, hv, _⟩ <;> rw [hv] <;> rfl
    simp [h5]
end Go.Proofs.YthomoliklfmnkaaDoor.Vx
end

section
/- slices.Delete at pairs: one pair taken out of an own row, by the kit's walker; its contract. -/
namespace Go.Proofs.YthomoliklfmnkaaDoor.Vx
open Go.RowKit Go.Lib
set_option linter.unusedVariables false
set_option linter.unusedSimpArgs false
theorem run_clear_row {P : Program} (w : World) (t e ty : TypeId) (z : Value) (ht : P.underlying t = some (.slice e)) (hv : ∀ w, (zeroValue e).run P w = .ok z w) (g o n c : Nat) (cur : Array Value) (t0 : TypeId) (hn : 0 < n) (hg : w.heap[g]? = some (.cells cur t0 (0, 0)))
    (hfit : o + (Builtin.zeroCells z.cells n).toList.length ≤ cur.size) (h1 : ∀ v ∈ (Builtin.zeroCells z.cells n).toList, v.oneCell' = true) :
    (Builtin.clear_ #[t] ty #[.slice (some ⟨g, o, none⟩) n c]).run P w = .ok (.tuple #[]) (w.setRow g (cur.toList.take o ++ (Builtin.zeroCells z.cells n).toList ++ cur.toList.drop (o + (Builtin.zeroCells z.cells n).toList.length)).toArray) := by
  have hst := run_storeCells_at P g o t0 (Builtin.zeroCells z.cells n).toList 0 cur w hg (by simpa using hfit) h1
  simp only [Nat.add_zero] at hst
  obtain ⟨m, rfl⟩ : ∃ m, n = m + 1 := ⟨n - 1, by omega⟩
  simp [Builtin.clear_, run_underlying ht, hv, hst]
theorem step_append_runJ {P : Program} {ops : Array Oper} {o : Oper} {a : Act} {w : World} {K : Act → World → Prop} {Q : Exit → Act → World → Prop} {E : Prop}
    (hg : o.guard = none) (d x : Operand) (dT sT : TypeId) (hop : o.op = Op.call { callee := Callee.builtin Builtin.append, args := #[d, x], argTypes := #[dT, sT] })
    (v u : Value) (hd : a.eval d = v) (hx : a.eval x = u) {v' : Value} {w' : World} (hr : (Builtin.append_ #[dT, sT] o.type #[v, u]).run P w = .ok v' w') (hK : K (a.put o.dst v') w') :
    if Region.wanted o (yielded ops a.tmps) = true then Oper.wp P o a w K Q else E := by
  have hw : Region.wanted o (yielded ops a.tmps) = true := by simp [Region.wanted, hg]
  rw [if_pos hw]
  unfold Oper.wp
  simp [execOp, hop, resolve, invoke, builtin, hd, hx, hr, Result.andThen]
  exact hK
set_option maxRecDepth 100000 in
set_option maxHeartbeats 8000000 in
theorem delWalk (W : World) (g n cap i : Nat) (cur : Array Value) (hi : i < n) (hnc : n ≤ cap) (hcm : cap ≤ 9223372036854775807) (hh : W.heap[g]? = some (.cells cur 63 (0, 0))) (hcs : cur.size = cap * 2)
    (h1c : ∀ u ∈ cur.toList.take (n * 2), u.oneCell' = true) {i0 : TypeInfo} {z0 : Value} (hi0 : Tryd.prog.info? 63 = some i0) (hz0 : i0.zero = some z0) (hsz : i0.size = 2) (hzs : z0.cells.size = 2) (hz1 : ∀ u ∈ z0.cells.toList, u.oneCell' = true) :
    Calls Tryd.prog 101 #[.slice (some ⟨g, 0, none⟩) n cap, .int .i64 (i : Int), .int .i64 ((i : Int) + 1)] W fun e W' => e = .returned (.slice (some ⟨g, 0, none⟩) (n - 1) cap) ∧ W.grownBy W' (some g) ∧
      ∃ cur2 : Array Value, W'.heap[g]? = some (.cells cur2 63 (0, 0)) ∧ cur2.size = cap * 2 ∧ cur2.toList.take ((n - 1) * 2) = (cur.toList.take (n * 2)).take (i * 2) ++ (cur.toList.take (n * 2)).drop ((i + 1) * 2) := by
  obtain ⟨xs, hxs⟩ : ∃ xs, xs = cur.toList.take (n * 2) := ⟨_, rfl⟩
  have hcl : cur.toList.length = cap * 2 := by rw [Array.length_toList, hcs]
  have hxl : xs.length = n * 2 := by rw [hxs, List.length_take, hcl]; omega
  obtain ⟨news, hnews⟩ : ∃ l, l = xs.drop ((i + 1) * 2) := ⟨_, rfl⟩
  have hnl : news.length = (n - (i + 1)) * 2 := by rw [hnews, List.length_drop, hxl, Nat.sub_mul]
  obtain ⟨cur1, hcur1⟩ : ∃ c : Array Value, c = (cur.toList.take (i * 2) ++ news ++ cur.toList.drop (i * 2 + news.length)).toArray := ⟨_, rfl⟩
  have hs1 : cur1.size = cap * 2 := by
    rw [hcur1]
    simp only [List.size_toArray, List.length_append, List.length_take, List.length_drop, hcl, hnl]
    omega
  have hcell : ∀ (W0 : World), W0.heap = W.heap → ∀ j u, news[j]? = some u → W0.cell? ⟨g, (i + 1) * 2 + j, none⟩ = some u := fun W0 h0 j u hj => by
    rw [cell_of_row W0 g _ cur 63 (0, 0) (by rw [h0]; exact hh)]
    rw [hnews, List.getElem?_drop, hxs, List.getElem?_take] at hj
    split at hj
    · rw [← hj, Array.getElem?_toList]
    · cases hj
  have hn1 : ∀ u ∈ news, u.oneCell' = true := fun u hu => h1c u (by rw [hnews] at hu; rw [← hxs]; exact List.mem_of_mem_drop hu)
  have hap : ∀ (W0 : World), W0.heap = W.heap → ∀ (A : Addr), (∀ j u, news[j]? = some u → W0.cell? (A.add j) = some u) → ∀ ty sc, (Builtin.append_ #[31, 31] ty #[.slice (some ⟨g, 0, none⟩) i cap, .slice (some A) (n - (i + 1)) sc]).run Tryd.prog W0 = .ok (.slice (some ⟨g, 0, none⟩) (i + (n - (i + 1))) cap) (W0.setRow g cur1) := fun W0 h0 A hA ty sc => by
    have h := run_append_room (P := Tryd.prog) W0 31 ty 63 i0 Tryd.underlying31 hi0 g i cap cur (by rw [h0]; exact hh) A (n - (i + 1)) sc news (by rw [hnl, hsz]) hA hn1 (by omega) (by rw [hsz, hnl, hcs]; omega)
    rw [hsz] at h
    rw [hcur1]
    exact h
  obtain ⟨zs, hzl⟩ : ∃ zs, zs = (Builtin.zeroCells z0.cells 1).toList := ⟨_, rfl⟩
  have hzn : zs.length = 2 := by rw [hzl, Array.length_toList, size_zeroCells, hzs]
  have hz2 : ∀ v ∈ zs, v.oneCell' = true := fun v hv => by
    rw [hzl] at hv
    simp [Builtin.zeroCells] at hv
    obtain ⟨a, ha, rfl⟩ := hv
    rw [hzs] at ha ⊢
    have hl : a % 2 < z0.cells.size := by rw [hzs]; exact Nat.mod_lt _ (by omega)
    have e : z0.cells[a % 2]! = z0.cells[a % 2] := getElem!_pos z0.cells (a % 2) hl
    rw [e]
    exact hz1 _ (by simp)
  obtain ⟨cur2, hcur2⟩ : ∃ c : Array Value, c = (cur1.toList.take ((n - 1) * 2) ++ zs ++ cur1.toList.drop ((n - 1) * 2 + zs.length)).toArray := ⟨_, rfl⟩
  have hcl2 : ∀ (W0 : World), W0.heap = (W.setRow g cur1).heap → ∀ ty c, (Builtin.clear_ #[31] ty #[.slice (some ⟨g, (n - 1) * 2, none⟩) 1 c]).run Tryd.prog W0 = .ok (.tuple #[]) (W0.setRow g cur2) := fun W0 h0 ty c => by
    rw [hcur2, hzl]
    exact run_clear_row W0 _ 63 ty z0 Tryd.underlying31 (fun w => by simp [zeroValue, typeInfo, hi0, hz0]) g ((n - 1) * 2) 1 c cur1 63 (by omega) (by rw [h0]; exact setRow_heap _ _ cur _ _ (0, 0) hh) (by rw [← hzl, hzn, hs1]; omega) (by rw [← hzl]; exact hz2)
  have hfin : cur2.size = cap * 2 ∧ cur2.toList.take ((n - 1) * 2) = xs.take (i * 2) ++ xs.drop ((i + 1) * 2) := by
    have hl1 : cur1.toList.length = cap * 2 := by rw [Array.length_toList, hs1]
    refine ⟨?_, ?_⟩
    · rw [hcur2]
      simp only [List.size_toArray, List.length_append, List.length_take, List.length_drop, hl1, hzn]
      omega
    · rw [hcur2, List.toList_toArray, List.append_assoc, List.take_append_of_le_length (by rw [List.length_take, hl1]; omega), List.take_take, Nat.min_self, hcur1, List.toList_toArray]
      have e1 : cur.toList.take (i * 2) = xs.take (i * 2) := by
        rw [hxs, List.take_take]
        congr 1
        omega
      have hl2 : (cur.toList.take (i * 2) ++ news).length = (n - 1) * 2 := by
        rw [List.length_append, List.length_take, hcl, hnl]
        omega
      rw [← hl2, List.take_left, e1, hnews]
  rw [← hxs]
  have hm : Tryd.prog.follows .mixedOrders = true := by kernel_rfl
  have hlen : i + (n - (i + 1)) = n - 1 := by omega
  rw [hlen] at hap
  have hw1 : ¬ ((i : Int) = (i : Int) + 1) := by omega
  have hb1 : (0 : Int) ≤ (i : Int) + 1 := by omega
  have hb2 : (i : Int) + 1 ≤ (n : Int) := by omega
  have hb3 : (n : Int) ≤ (cap : Int) := by omega
  have htn : ((i : Int) + 1).toNat = i + 1 := by omega
  have hb5 : i ≤ cap := by omega
  have hb6 : ((n - 1 : Nat) : Int) ≤ (n : Int) := by omega
  have hb7 : n - (n - 1) = 1 := by omega
  have hb8 : ¬ (cap = n - 1) := by omega
  have hb9 : ¬ (cap = i) := by omega
  have hbi : i ≤ i + 1 := by omega
  have hbj : i + 1 ≤ n := by omega
  have hn00' : cap = i + 1 → news.length = 0 := fun h => by rw [hnl]; omega
  clear hcur1 hcur2 hnews hxs hnl hzl hlen
  have hclw := fun ty c => hcl2 (W.drew.setRow g cur1) rfl ty c
  by_cases hci : cap = i + 1
  · have hn00 := hn00' hci
    have hd : ∀ j u, news[j]? = some u → W.drew.cell? ((⟨g, 0, none⟩ : Addr).add j) = some u := fun j u hj => by
      have hne : news = [] := List.eq_nil_of_length_eq_zero hn00
      rw [hne] at hj
      simp at hj
    obtain rfl : n = i + 1 := by omega
    subst hci
    simp only [Nat.add_sub_cancel, Nat.sub_self] at hap hclw hfin ⊢
    clear hb6 hb7 hb8 hn00' hcl2 hw1
    have hw1 : ¬ ((i : Int) = (i : Int) + 1) := by omega
    have hq1 : (i : Int) ≤ (i : Int) + 1 := by omega
    have hq2 : ¬ (i + 1 = i) := by omega
    go_enter Tryd.func101, Tryd.ntmps101
    go_wp2_with fail
    go_region_law_o (refine step_append_runJ rfl _ _ 31 31 rfl (.slice (some ⟨g, 0, none⟩) i (i + 1)) (.slice (some ⟨g, 0, none⟩) 0 0) (by simp [Act.eval, Act.put]) (by simp [Act.eval, Act.put]) (hap W.drew rfl _ hd _ _) ?_)
    go_wp2
    go_ret
    refine ⟨rfl, ?_, cur2, ?_, hfin.1, hfin.2⟩
    · exact ⟨rfl, rfl, rfl, by simp [World.setRow], fun k hk hne => by
        have hkg : k ≠ g := fun e => hne (by rw [e])
        rw [setRow_other _ _ _ _ hkg]
        exact setRow_other _ _ _ _ hkg⟩
    · exact setRow_heap _ _ cur1 _ _ (0, 0) (setRow_heap _ _ cur _ _ (0, 0) hh)
  · have hd : ∀ j u, news[j]? = some u → W.drew.cell? ((⟨g, (i + 1) * 2, none⟩ : Addr).add j) = some u := fun j u hj => by
      rw [addr_add]
      exact hcell W.drew rfl j u hj
    clear hcell
    go_enter Tryd.func101, Tryd.ntmps101
    go_wp2_with fail
    go_region_law_o (refine step_append_runJ rfl _ _ 31 31 rfl (.slice (some ⟨g, 0, none⟩) i cap) (.slice (some ⟨g, (i + 1) * 2, none⟩) (n - (i + 1)) (cap - (i + 1))) (by simp [Act.eval, Act.put]) (by simp [Act.eval, Act.put]) (hap W.drew rfl _ hd _ _) ?_)
    go_wp2
    go_ret
    refine ⟨rfl, ?_, cur2, ?_, hfin.1, hfin.2⟩
    · exact ⟨rfl, rfl, rfl, by simp [World.setRow], fun k hk hne => by
        have hkg : k ≠ g := fun e => hne (by rw [e])
        rw [setRow_other _ _ _ _ hkg]
        exact setRow_other _ _ _ _ hkg⟩
    · exact setRow_heap _ _ cur1 _ _ (0, 0) (setRow_heap _ _ cur _ _ (0, 0) hh)
/-- An element taken out. -/
def delG (get : Nat → List CV) (i : Nat) (j : Nat) : List CV := match Nat.blt j i with
  | true => get j
  | false => get (j + 1)
theorem delG_lt {get : Nat → List CV} {i j : Nat} (h : j < i) : delG get i j = get j := by
  unfold delG
  rw [show Nat.blt j i = true from by rw [Nat.blt_eq]; exact h]
theorem delG_ge {get : Nat → List CV} {i j : Nat} (h : i ≤ j) : delG get i j = get (j + 1) := by
  unfold delG
  have h1 : Nat.blt j i = false := by
    cases h2 : Nat.blt j i
    · rfl
    · rw [Nat.blt_eq] at h2; omega
  rw [h1]
theorem row_del {W' : World} {e : TypeId} {n i : Nat} {get : Nat → List CV} {v' : Value} {xs : List Value} (hxl : xs.length = n * 2) (hg : ∀ j, j < n → IsL [] (get j) ((xs.drop (j * 2)).take 2)) (hi : i < n)
    (h2 : W'.ownsRow 0 e 2 v' (n - 1) (xs.take (i * 2) ++ xs.drop ((i + 1) * 2))) (ρ : List Pl) : Ent.ok ρ ⟨v'.ownBlock.getD 0, v', 0⟩ W' (.row e 2 (n - 1) (delG get i)) := by
  refine ⟨_, ⟨fun j hj => ?_, rfl, fun g hg' => ?_⟩, h2⟩
  · have hl1 : (xs.take (i * 2)).length = i * 2 := by rw [List.length_take]; omega
    rcases Nat.lt_or_ge j i with h | h
    · rw [delG_lt h, List.drop_append_of_le_length (by omega), List.take_append_of_le_length (by rw [List.length_drop]; omega)]
      have e1 : ((xs.take (i * 2)).drop (j * 2)).take 2 = (xs.drop (j * 2)).take 2 := by
        rw [List.drop_take, List.take_take]
        congr 1
        omega
      rw [e1]
      exact hg j (by omega)
    · rw [delG_ge h]
      have e1 : (xs.take (i * 2) ++ xs.drop ((i + 1) * 2)).drop (j * 2) = xs.drop ((j + 1) * 2) := by
        rw [List.drop_append, List.drop_eq_nil_of_le (by omega), List.nil_append, hl1, List.drop_drop]
        congr 1
        omega
      rw [e1]
      exact hg (j + 1) (by omega)
  · show g = v'.ownBlock.getD 0
    have hg' : v'.ownBlock = some g := hg'
    rw [hg']; rfl
def delPre (i i2 : Int) (n : Nat) : Prop := (0 ≤ i ∧ i < (n : Int)) ∧ i2 = i + 1
def appDel : App := fun args h => match args with
  | [.c (.row k), .c (.int .i64 i), .c (.int .i64 i2)] => match h[k]? with
    | some (.row e 2 n get) => match Nat.beq e 63 with
      | true => some ⟨delPre i i2 n, .c (.row h.length), h.set k .dead ++ [.row 63 2 (n - 1) (delG get i.toNat)], [k]⟩
      | false => none
    | _ => none
  | _ => none
theorem delCt : CtOk Tryd.prog 101 appDel := by
  have hsp : ∀ args h r, appDel args h = some r → ∃ k i i2 n get, args = [.c (.row k), .c (.int .i64 i), .c (.int .i64 i2)] ∧ h[k]? = some (.row 63 2 n get) ∧ r = ⟨delPre i i2 n, .c (.row h.length), h.set k .dead ++ [.row 63 2 (n - 1) (delG get i.toNat)], [k]⟩ := fun args h r hr => by
    unfold appDel at hr
    split at hr
    · split at hr
      · split at hr
        · rename_i k i i2 _ e n get hk _ hb
          have hb := Nat.eq_of_beq_eq_true hb
          subst hb
          exact ⟨k, i, i2, n, get, rfl, hk, (Option.some.inj hr).symm⟩
        · cases hr
      · cases hr
    · cases hr
  refine ⟨callable_spec (by kernel_rfl), fun args h r hr => ?_, fun args h r hr hpre w0 G ρ W us rel hus => ?_⟩
  · obtain ⟨k, i, i2, n, get, rfl, hk, rfl⟩ := hsp args h r hr
    refine ⟨by simp, fun m hm hn => ?_⟩
    have hmk : ¬ k = m := fun e => hn (by simp [e])
    rw [List.getElem?_append_left (by simpa using hm), List.getElem?_set_ne hmk]
  · obtain ⟨k, i, i2, n, get, rfl, hk, rfl⟩ := hsp args h r hr
    obtain ⟨⟨p1, p2⟩, rfl⟩ := hpre
    obtain ⟨u0, us0, rfl, a0, u1, us1, rfl, a1, u2, us2, rfl, a2, a3⟩ := hus
    cases a3
    obtain ⟨p, hp, hu⟩ := den_row a0
    have e1 : u1 = .int .i64 i := (Option.some.inj a1).symm
    have e2 : u2 = .int .i64 (i + 1) := (Option.some.inj a2).symm
    obtain ⟨xs, ⟨g1, g2, g3⟩, hown⟩ := rel.ok k _ p hk hp
    have one' : ∀ {ρ' : List Pl} {xs : List CV} {vs : List Value}, IsL ρ' xs vs → ∀ u ∈ vs, u.oneCell' = true := fun {ρ' xs vs} hx u hu => by
      obtain ⟨m, hm, hmv⟩ := List.mem_iff_getElem.1 hu
      obtain ⟨c, _, hc⟩ := hx.getr (i := m) (u := u) (by rw [List.getElem?_eq_getElem hm, hmv])
      have := CV.den_oneCell hc
      cases u <;> first | rfl | cases this
    have h1c : ∀ u ∈ xs, u.oneCell' = true := fun u hu => by
      obtain ⟨m, hm, hmv⟩ := List.mem_iff_getElem.1 hu
      have hm2 : m / 2 < n := by have := hown.1; omega
      have h3 := g1 (m / 2) hm2
      refine one' h3 u ?_
      rw [List.mem_iff_getElem?]
      refine ⟨m % 2, ?_⟩
      rw [List.getElem?_take, if_pos (Nat.mod_lt _ (by omega)), List.getElem?_drop, show m / 2 * 2 + m % 2 = m by omega, List.getElem?_eq_getElem hm, hmv]
    obtain ⟨m, rfl⟩ : ∃ m : Nat, i = (m : Int) := ⟨i.toNat, by omega⟩
    have hmn : m < n := by omega
    obtain ⟨i1, d1, z1, T1⟩ := TI.spec (tbPa_ok.T 63 _ rfl)
    have hz1 : ∀ u ∈ z1.cells.toList, u.oneCell' = true := fun u hu => by
      have := List.all_eq_true.1 T1.ones u hu
      cases u <;> first | rfl | cases this
    rcases hown.2 with ⟨hv, hn0⟩ | ⟨g, cap, cur, hv, _, hh, hc1, hc2, hc3, hc4⟩
    · omega
    · subst hu e1 e2
      rw [hv]
      have hw := delWalk W g n cap m cur hmn hc1 (by unfold maxLen at hc2; exact hc2) hh hc3 (by rw [hc4]; exact h1c) T1.info T1.zero T1.size T1.zsize hz1
      refine Calls.mono hw fun e W' he => ?_
      obtain ⟨h1, h2, cur2, h3, h4, h5⟩ := he
      rw [hc4] at h5
      have hown' : W'.ownsRow 0 63 2 (.slice (some ⟨g, 0, none⟩) (n - 1) cap) (n - 1) (xs.take (m * 2) ++ xs.drop ((m + 1) * 2)) := by
        refine ⟨?_, Or.inr ⟨g, cap, cur2, rfl, Nat.zero_le _, h3, by omega, hc2, h4, h5⟩⟩
        have := hown.1
        rw [List.length_append, List.length_take, List.length_drop]
        omega
      have hgr := rel.growE (en := .row 63 2 (n - 1) (delG get m)) (q0 := ⟨(Value.slice (some ⟨g, 0, none⟩) (n - 1) cap).ownBlock.getD 0, .slice (some ⟨g, 0, none⟩) (n - 1) cap, 0⟩) hk hp rfl rfl (row_del hown.1 g1 hmn hown' _) rfl (fun b hb => (World.ownsRow.lt hown' b hb).2) (by rw [hv]; exact h2) (fun b hb => Or.inl (by rw [hv]; exact hb))
      refine ⟨_, [_], h1, ?_, hgr⟩
      show CV.den _ (.row h.length) = some _
      simp only [CV.den]
      rw [← rel.len, List.getElem?_append_right (Nat.le_refl _)]
      simp [one]
end Go.Proofs.YthomoliklfmnkaaDoor.Vx
end

section
/- More of what all proofs of this seat share. -/
namespace Go.Proofs.YthomoliklfmnkaaDoor
open Go.RowKit
set_option linter.unusedVariables false



end Go.Proofs.YthomoliklfmnkaaDoor
end

section
/- Names and ends: what path.Name, path.May and the document's Name and MayEnd return. -/
namespace Go.Proofs.YthomoliklfmnkaaDoor
open Go.RowKit
set_option linter.unusedVariables false











end Go.Proofs.YthomoliklfmnkaaDoor
end
