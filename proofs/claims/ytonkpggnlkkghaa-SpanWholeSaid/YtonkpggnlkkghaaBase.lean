/- What all proofs of this seat share: a block of cells that is known whole, and frames. -/
import Derived.Test.YtonkpggnlkkghaaRows
import Derived.WalkKit
import Derived.WalkSpells
import Derived.WalkLawsBesides
import Derived.Deep.QuietTactic
import Derived.BigQuiet
import Derived.Lib.Hide
import Derived.ProofKit
import Derived.OpenShut
namespace Go.Proofs.Ytonkpggnlkkghaa
open Go.RowKit
set_option linter.unusedVariables false

/-- Block g holds just these cells, of element type t, none of them frozen. -/
def Blk (w : World) (g : Nat) (t : TypeId) (cs : Array Value) : Prop := w.heap[g]? = some (.cells cs t (0, 0))

section
variable {w w' : World} {g : Nat} {t : TypeId} {cs : Array Value}
theorem Blk.lt (h : Blk w g t cs) : g < w.heap.size := by
  unfold Blk at h
  exact (Array.getElem?_eq_some_iff.1 h).1
theorem Blk.cell (h : Blk w g t cs) (i : Nat) : w.cell? ⟨g, i, none⟩ = cs[i]? := by
  unfold Blk at h
  simp [World.cell?, h]
theorem Blk.free (h : Blk w g t cs) (i : Nat) : w.frozen? ⟨g, i, none⟩ = false := by
  unfold Blk at h
  simp [World.frozen?, h]
theorem Blk.new (w : World) (t : TypeId) (cs : Array Value) : Blk (w.alloc (.cells cs t)) w.heap.size t cs := heap_alloc_new w _
theorem Blk.drewN (h : Blk w g t cs) (n : Nat) : Blk (w.drewN n) g t cs := h
theorem Blk.alloc (h : Blk w g t cs) (o : Obj) : Blk (w.alloc o) g t cs := (Below.heap_alloc w o g h.lt).trans h
theorem Blk.set (h : Blk w g t cs) (i : Nat) (u : Value) : Blk (w.setCell ⟨g, i, none⟩ u) g t (cs.setIfInBounds i u) := by
  unfold Blk at h ⊢
  simp [World.setCell, Array.getElem?_modify, h]
theorem Blk.far (h : Blk w g t cs) {p : Addr} (hp : g ≠ p.block) (u : Value) : Blk (w.setCell p u) g t cs := (Below.heap_setCell w p u g hp).trans h
theorem Blk.below {B : Nat} (h : Blk w g t cs) (hb : Below B w w') (hg : g < B) : Blk w' g t cs := (hb.block g hg).trans h
theorem Blk.grown {row : Option Nat} (h : Blk w g t cs) (hb : w.grownBy w' row) (hg : some g ≠ row) : Blk w' g t cs := (hb.block g h.lt hg).trans h
end

/-- Only block g, and what is new, has turned. -/
theorem only_refl (w : World) (row : Option Nat) : w.grownBy w row := ⟨rfl, rfl, rfl, Nat.le_refl _, fun _ _ _ => rfl⟩
theorem only_drewN {a w : World} {row : Option Nat} (h : a.grownBy w row) (n : Nat) : a.grownBy (w.drewN n) row := ⟨h.os, h.tape, h.output, h.size, h.block⟩
theorem only_alloc {a w : World} {row : Option Nat} (h : a.grownBy w row) (o : Obj) : a.grownBy (w.alloc o) row :=
  ⟨h.os, h.tape, h.output, Nat.le_trans h.size (by simp), fun i hi hne => (Below.heap_alloc w o i (Nat.lt_of_lt_of_le hi h.size)).trans (h.block i hi hne)⟩
theorem only_setCell {a w : World} {g : Nat} (h : a.grownBy w (some g)) {p : Addr} (hp : p.block = g ∨ a.heap.size ≤ p.block) (u : Value) : a.grownBy (w.setCell p u) (some g) :=
  ⟨h.os, h.tape, h.output, by simpa [World.setCell] using h.size, fun i hi hne => (Below.heap_setCell w p u i (by
    rintro rfl
    rcases hp with hp | hp
    · exact hne (by rw [hp])
    · omega)).trans (h.block i hi hne)⟩
theorem only_trans {a b c : World} {row : Option Nat} (h : a.grownBy b row) (k : b.grownBy c row) : a.grownBy c row :=
  ⟨k.os.trans h.os, k.tape.trans h.tape, k.output.trans h.output, Nat.le_trans h.size k.size, fun i hi hne => (k.block i (Nat.lt_of_lt_of_le hi h.size) hne).trans (h.block i hi hne)⟩
theorem only_below {a w : World} (h : Below a.heap.size a w) (row : Option Nat) : a.grownBy w row := ⟨h.os, h.tape, h.output, h.size, fun i hi _ => h.block i hi⟩
theorem below_drewN {B : Nat} {a w : World} (h : Below B a w) (n : Nat) : Below B a (w.drewN n) := ⟨h.os, h.tape, h.output, h.size, h.block⟩
theorem below_only {B : Nat} {a w w' : World} {g : Nat} (h : Below B a w) (hg : w.grownBy w' (some g)) (hB : B ≤ w.heap.size) (hr : B ≤ g) : Below B a w' :=
  h.grown hg hB (fun k hk => by injection hk; omega)

/-- A slice of integers that came in, as it reads: its elements are xs. -/
def Ints (k : IntKind) (w : World) (a : Option Addr) (xs : List Int) : Prop :=
  (∀ n ∈ xs, (Lit.int k n).wf = true) ∧ (0 < xs.length → ∃ b off, a = some ⟨b, off, none⟩ ∧ b < w.heap.size ∧ ∀ i, i < xs.length → w.cell? ⟨b, off + i, none⟩ = some (.int k (xs.getD i 0)))

theorem Ints.at_ {k : IntKind} {w w' : World} {a : Option Addr} {xs : List Int} (h : Ints k w a xs) (hb : Below w.heap.size w w') {i : Nat} (hi : i < xs.length) :
    ∃ b off, a = some ⟨b, off, none⟩ ∧ b < w.heap.size ∧ w'.cell? ⟨b, off + i, none⟩ = some (.int k (xs.getD i 0)) := by
  obtain ⟨b, off, ha, hl, hc⟩ := h.2 (by omega)
  exact ⟨b, off, ha, hl, (hb.cell (p := ⟨b, off + i, none⟩) hl).trans (hc i hi)⟩

theorem ret_bool {a b : Bool} (h : a = b) : Ending.returned (.bool a) = .returned (.bool b) := by rw [h]
theorem ret_int {k : IntKind} {a b : Int} (h : a = b) : Ending.returned (.int k a) = .returned (.int k b) := by rw [h]
theorem ret_str {a b : ByteArray} (h : a = b) : Ending.returned (.string a) = .returned (.string b) := by rw [h]

section
open Go.ChangeShapes Go.WideShapes Go.ChangeAt
variable {H : Type} {enc : TypeId × Value → H} {P : Program} {w : World} {base : Nat}
/-- A slice of integers, opened. -/
theorem open_Ints {t e : TypeId} {k : IntKind} {v : Value} {d : DataW H} {p : List MemPlace} (ht : P.underlying t = some (.slice e)) (he : P.underlying e = some (.int k)) (hc : P.cellsOf e = 1)
    (hv : Value.okWide P w .any base t v) (h : DataW.Trod enc P w 0 (fun _ => true) true t v d p) :
    ∃ (a : Option Addr) (cap : Nat) (xs : List Int), v = .slice a xs.length cap ∧ Ints k w a xs ∧ xs.length ≤ maxLen := by
  obtain ⟨a, len, cap, rfl⟩ := okWide_slice ht hv
  obtain ⟨fuel, hf⟩ := h
  have hf' := hf
  rcases open_ints ht he hc hf with ⟨hcs, _⟩ | ⟨x, l, c, zs, hcs, _, hl, hm, hz, hx, hcell, hwz⟩
  · simp [Value.cells] at hcs
    obtain ⟨rfl, rfl, rfl⟩ := hcs
    exact ⟨none, 0, [], rfl, ⟨by simp, fun h => absurd h (by simp)⟩, by simp⟩
  · simp [Value.cells] at hcs
    obtain ⟨rfl, rfl, rfl⟩ := hcs
    have hzl : zs.length = cap := by simpa using hz
    refine ⟨some x, cap, zs.take len, by rw [List.length_take, hzl, Nat.min_eq_left hl], ⟨fun n hn => hwz n (List.mem_of_mem_take hn), fun h0 => ?_⟩, by rw [List.length_take]; omega⟩
    rw [List.length_take] at h0
    obtain ⟨b, off, spot⟩ := x
    have hc0 := hcell 0 (by omega)
    have hspot : spot = none := by simpa [Addr.add] using World.cell?_spot hc0
    subst hspot
    refine ⟨b, off, rfl, by have := World.block_lt_of_cell? w _ hc0; simpa [Addr.add] using this, fun i hi => ?_⟩
    rw [List.length_take] at hi
    have := hcell i (by omega)
    rw [show (zs.take len).getD i 0 = zs.getD i 0 from by simp [List.getD, show i < len from by omega]]
    rw [← this]
    unfold Addr.add
    split
    · subst_vars; simp
    · rfl
end

/-- A byte as the model holds it. -/
def bv (c : UInt8) : Value := .int .u8 (c.toNat : Int)

/-- A slice of bytes that the call itself made. -/
def OwnB (w : World) (base : Nat) (v : Value) (l : List UInt8) : Prop := w.ownsRow base 5 1 v l.length (l.map bv)

theorem OwnB.nil (w : World) (base : Nat) : OwnB w base (.slice none 0 0) [] := World.ownsRow_nil _ _ _ _
theorem OwnB.alloc {w : World} {base : Nat} {v : Value} {l : List UInt8} (h : OwnB w base v l) (o : Obj) : OwnB (w.alloc o) base v l := World.ownsRow.alloc h o
theorem OwnB.push {w : World} {base : Nat} {v : Value} {l : List UInt8} {x : Int} (c : UInt8) (hx : x = (c.toNat : Int)) (h : w.ownsRow base 5 1 v (l.length + 1) (l.map bv ++ [.int .u8 x])) : OwnB w base v (l ++ [c]) := by
  unfold OwnB
  rw [List.length_append, List.map_append]
  subst hx
  exact h

theorem info_u8 : (Try.prog.info? 5).map (fun i => (i.zero, i.size, i.bytes)) = some (some (.int .u8 0), 1, 1) := by kernel_rfl

theorem bytes_of_nums (l : List UInt8) : strOfNums (l.map fun c => (c.toNat : Int)) = ⟨l.toArray⟩ := by
  unfold strOfNums
  rw [List.map_map]
  congr 1
  congr 1
  rw [List.map_congr_left (g := id), List.map_id]
  intro c _
  apply UInt8.toNat_inj.1
  have := c.toNat_lt
  simp

theorem cell_new0 (w : World) (t : TypeId) (u : Value) : (w.alloc (.cells #[u] t)).cell? ⟨w.heap.size, 0, none⟩ = some u := (Blk.new w t #[u]).cell 0

/-- A string by its list of bytes. -/
theorem str_list (s : ByteArray) : ∃ l : List UInt8, s = ⟨l.toArray⟩ := ⟨s.data.toList, by cases s; rfl⟩

/-- 'string(b)' of bytes that the call itself made. -/
theorem OwnB.str {w : World} {base : Nat} {v : Value} {l : List UInt8} (h : OwnB w base v l) :
    (convert 106 9 v).run Try.prog w = .ok (.string ⟨l.toArray⟩) w := by
  have h' : w.ownsRow base 5 1 v l.length (l.map bv) := h
  rcases h.2 with ⟨hv, hn⟩ | ⟨g, cap, cur, hv, hb, hh, hnc, hcm, hcs, htake⟩
  · subst hv
    rw [run_convert_bytes_nil w 106 5 Try.underlying106 Try.underlying5 0 0 _ Try.underlying9]
    rw [List.eq_nil_of_length_eq_zero hn]
    rfl
  · subst hv
    rw [run_convert_bytes_arg w 106 5 Try.underlying106 Try.underlying5 g 0 l.length cap (l.map fun c => (c.toNat : Int)) (by simp) (fun i hi => ?_) _ Try.underlying9, bytes_of_nums]
    rw [Nat.zero_add, h'.cellAt i (by omega)]
    simp [bv, List.getD, List.getElem?_eq_getElem hi]

/-- 'string(b)' of a row of bytes that is known whole. -/
theorem Blk.str {w : World} {g : Nat} {t : TypeId} {cs : Array Value} (h : Blk w g t cs) (l : List UInt8) (hcs : ∀ i, i < l.length → cs[i]? = some (bv (l.getD i 0))) (cap : Nat) :
    (convert 106 9 (.slice (some ⟨g, 0, none⟩) l.length cap)).run Try.prog w = .ok (.string ⟨l.toArray⟩) w := by
  rw [run_convert_bytes_arg w 106 5 Try.underlying106 Try.underlying5 g 0 l.length cap (l.map fun c => (c.toNat : Int)) (by simp) (fun i hi => ?_) _ Try.underlying9, bytes_of_nums]
  rw [Nat.zero_add, h.cell i, hcs i hi]
  simp [bv, List.getD, List.getElem?_eq_getElem hi]

/-- One byte more, behind bytes that the call itself made. -/
theorem wpList_push_byte {w : World} {ops : Array Oper} {rest : List Oper} {o : Oper} {a : Act} {Q : Exit → Act → World → Prop} (hgd : o.guard = none) (s x : Operand)
    (ho : o.op = .call { callee := .builtin .append, args := #[s, x], argTypes := #[106, 106] })
    (base : Nat) (v : Value) (l : List UInt8) (hs : a.eval s = v) (hown : OwnB w base v l)
    (b : Nat) (y : Int) (hx : a.eval x = .slice (some ⟨b, 0, none⟩) 1 1) (hc : w.cell? ⟨b, 0, none⟩ = some (.int .u8 y)) (c : UInt8) (hy : y = (c.toNat : Int))
    (hlen : l.length ≤ 1099511627776) (hbase : base ≤ w.heap.size)
    (h : ∀ v' w', OwnB w' base v' (l ++ [c]) → w.heap.size ≤ w'.heap.size → Below base w w' → wpList Try.prog ops Q rest (a.put o.dst v') w') : wpList Try.prog ops Q (o :: rest) a w := by
  obtain ⟨i0, hi, hz0, hz1, hz2⟩ := info_parts info_u8
  refine wpList_append_own w hgd s x 106 ho base 5 i0 (.int .u8 0) 1 1 Try.underlying106 hi hz0 hz1 hz2 rfl (by decide) v l.length (l.map bv) hs hown ⟨b, 0, none⟩ 1 1 [.int .u8 y] hx rfl ?_ ?_ ?_ ?_ hbase ?_
  · intro j u hj
    match j, hj with
    | 0, hj => simp at hj; subst hj; simpa [Addr.add] using hc
  · intro u hu; simp at hu; subst hu; rfl
  · unfold maxLen; omega
  · omega
  · intro v' w' hown' hg _
    exact h v' w' (OwnB.push c hy hown') hg.size ((Below.refl _ _).grown hg hbase fun k hk => (World.ownsRow.lt hown k hk).1)
end Go.Proofs.Ytonkpggnlkkghaa
