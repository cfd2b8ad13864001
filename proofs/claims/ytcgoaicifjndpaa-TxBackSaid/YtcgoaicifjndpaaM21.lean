/- What all proofs of this seat share: a block of cells that is known whole, and frames. -/
import Derived.Test.YtcgoaicifjndpaaRows
import Derived.WalkKit
import Derived.WalkSpells
import Derived.WalkLawsBesides
import Derived.Deep.QuietTactic
import Derived.BigQuiet
import Derived.Lib.Hide
import Derived.ProofKit
import Derived.OpenShut
section
namespace Go.Proofs.Ytcgoaicifjndpaa
open Go.RowKit
set_option linter.unusedVariables false

/-- Block g holds just these cells, of element type t, none of them frozen. -/
def Blk (w : World) (g : Nat) (t : TypeId) (cs : Array Value) : Prop := w.heap[g]? = some (.cells cs t (0, 0))

section
variable {w w' : World} {g : Nat} {t : TypeId} {cs : Array Value}
theorem Blk.lt (h : Blk w g t cs) : g < w.heap.size := by
  unfold Blk at h
  exact (Array.getElem?_eq_some_iff.1 h).1
theorem Blk.cell (h : Blk w g t cs) (i : Nat) : w.cell? ⟨g, i, none⟩ = cs[i]? := by
  unfold Blk at h
  simp [World.cell?, h]
theorem Blk.new (w : World) (t : TypeId) (cs : Array Value) : Blk (w.alloc (.cells cs t)) w.heap.size t cs := heap_alloc_new w _
theorem Blk.below {B : Nat} (h : Blk w g t cs) (hb : Below B w w') (hg : g < B) : Blk w' g t cs := (hb.block g hg).trans h
end




theorem ret_bool {a b : Bool} (h : a = b) : Ending.returned (.bool a) = .returned (.bool b) := by rw [h]
theorem ret_str {a b : ByteArray} (h : a = b) : Ending.returned (.string a) = .returned (.string b) := by rw [h]

section
open Go.ChangeShapes Go.WideShapes Go.ChangeAt
variable {H : Type} {enc : TypeId × Value → H} {P : Program} {w : World} {base : Nat}
end

/-- A byte as the model holds it. -/
def bv (c : UInt8) : Value := .int .u8 (c.toNat : Int)

/-- A slice of bytes that the call itself made. -/
def OwnB (w : World) (base : Nat) (v : Value) (l : List UInt8) : Prop := w.ownsRow base 5 1 v l.length (l.map bv)

theorem OwnB.nil (w : World) (base : Nat) : OwnB w base (.slice none 0 0) [] := World.ownsRow_nil _ _ _ _
theorem OwnB.alloc {w : World} {base : Nat} {v : Value} {l : List UInt8} (h : OwnB w base v l) (o : Obj) : OwnB (w.alloc o) base v l := World.ownsRow.alloc h o
theorem OwnB.push {w : World} {base : Nat} {v : Value} {l : List UInt8} {x : Int} (c : UInt8) (hx : x = (c.toNat : Int)) (h : w.ownsRow base 5 1 v (l.length + 1) (l.map bv ++ [.int .u8 x])) : OwnB w base v (l ++ [c]) := by
  unfold OwnB
  rw [List.length_append, List.map_append]
  subst hx
  exact h

theorem info_u8 : (Try.prog.info? 5).map (fun i => (i.zero, i.size, i.bytes)) = some (some (.int .u8 0), 1, 1) := by kernel_rfl

theorem bytes_of_nums (l : List UInt8) : strOfNums (l.map fun c => (c.toNat : Int)) = ⟨l.toArray⟩ := by
  unfold strOfNums
  rw [List.map_map]
  congr 1
  congr 1
  rw [List.map_congr_left (g := id), List.map_id]
  intro c _
  apply UInt8.toNat_inj.1
  have := c.toNat_lt
  simp

theorem cell_new0 (w : World) (t : TypeId) (u : Value) : (w.alloc (.cells #[u] t)).cell? ⟨w.heap.size, 0, none⟩ = some u := (Blk.new w t #[u]).cell 0


/-- 'string(b)' of bytes that the call itself made. -/
theorem OwnB.str {w : World} {base : Nat} {v : Value} {l : List UInt8} (h : OwnB w base v l) :
    (convert 188 9 v).run Try.prog w = .ok (.string ⟨l.toArray⟩) w := by
  have h' : w.ownsRow base 5 1 v l.length (l.map bv) := h
  rcases h.2 with ⟨hv, hn⟩ | ⟨g, cap, cur, hv, hb, hh, hnc, hcm, hcs, htake⟩
  · subst hv
    rw [run_convert_bytes_nil w 188 5 Try.underlying188 Try.underlying5 0 0 _ Try.underlying9]
    rw [List.eq_nil_of_length_eq_zero hn]
    rfl
  · subst hv
    rw [run_convert_bytes_arg w 188 5 Try.underlying188 Try.underlying5 g 0 l.length cap (l.map fun c => (c.toNat : Int)) (by simp) (fun i hi => ?_) _ Try.underlying9, bytes_of_nums]
    rw [Nat.zero_add, h'.cellAt i (by omega)]
    simp [bv, List.getD, List.getElem?_eq_getElem hi]


/-- One byte more, behind bytes that the call itself made. -/
theorem wpList_push_byte {w : World} {ops : Array Oper} {rest : List Oper} {o : Oper} {a : Act} {Q : Exit → Act → World → Prop} (hgd : o.guard = none) (s x : Operand)
    (ho : o.op = .call { callee := .builtin .append, args := #[s, x], argTypes := #[188, 188] })
    (base : Nat) (v : Value) (l : List UInt8) (hs : a.eval s = v) (hown : OwnB w base v l)
    (b : Nat) (y : Int) (hx : a.eval x = .slice (some ⟨b, 0, none⟩) 1 1) (hc : w.cell? ⟨b, 0, none⟩ = some (.int .u8 y)) (c : UInt8) (hy : y = (c.toNat : Int))
    (hlen : l.length ≤ 1099511627776) (hbase : base ≤ w.heap.size)
    (h : ∀ v' w', OwnB w' base v' (l ++ [c]) → w.heap.size ≤ w'.heap.size → Below base w w' → wpList Try.prog ops Q rest (a.put o.dst v') w') : wpList Try.prog ops Q (o :: rest) a w := by
  obtain ⟨i0, hi, hz0, hz1, hz2⟩ := info_parts info_u8
  refine wpList_append_own w hgd s x 188 ho base 5 i0 (.int .u8 0) 1 1 Try.underlying188 hi hz0 hz1 hz2 rfl (by decide) v l.length (l.map bv) hs hown ⟨b, 0, none⟩ 1 1 [.int .u8 y] hx rfl ?_ ?_ ?_ ?_ hbase ?_
  · intro j u hj
    match j, hj with
    | 0, hj => simp at hj; subst hj; simpa [Addr.add] using hc
  · intro u hu; simp at hu; subst hu; rfl
  · unfold maxLen; omega
  · omega
  · intro v' w' hown' hg _
    exact h v' w' (OwnB.push c hy hown') hg.size ((Below.refl _ _).grown hg hbase fun k hk => (World.ownsRow.lt hown k hk).1)
end Go.Proofs.Ytcgoaicifjndpaa
end

section
/- More of what all proofs of this seat share. -/
namespace Go.Proofs.Ytcgoaicifjndpaa
open Go.RowKit
set_option linter.unusedVariables false


theorem bcell {W w1 : World} (hb : Below W.heap.size W w1) : (∀ b o, b < W.heap.size → w1.cell? ⟨b, o, none⟩ = W.cell? ⟨b, o, none⟩) ∧ (∀ b o, b < W.heap.size → w1.frozen? ⟨b, o, none⟩ = W.frozen? ⟨b, o, none⟩) :=
  ⟨fun b o h => hb.cell (p := ⟨b, o, none⟩) h, fun b o h => hb.frozen (p := ⟨b, o, none⟩) h⟩

/-- A block that is known whole stays so behind a call that turns nothing old. -/
theorem Blk.keep {w w' : World} {g : Nat} {t : TypeId} {cs : Array Value} (h : Blk w g t cs) (hb : Below w.heap.size w w') : Blk w' g t cs := h.below hb h.lt
end Go.Proofs.Ytcgoaicifjndpaa
end

section
/- Names and ends: what path.Name, path.May and the document's Name and MayEnd return. -/
namespace Go.Proofs.Ytcgoaicifjndpaa
open Go.RowKit
set_option linter.unusedVariables false

def isL (c : UInt8) : Bool := decide (97 ≤ c.toNat ∧ c.toNat ≤ 122)
def isO (c : UInt8) : Bool := decide (48 ≤ c.toNat ∧ c.toNat ≤ 57 ∨ c.toNat = 45)
/-- May a character stand there? The first one must be a letter. -/
def okc (first : Bool) (c : UInt8) : Bool := isL c || (!first && isO c)
def okAll : Bool → List UInt8 → Bool
  | _, [] => true
  | first, c :: l => okc first c && okAll false l
def nameOk (l : List UInt8) : Bool := okAll true l && decide (1 ≤ l.length ∧ l.length ≤ 12)
def mayEnd (port : List UInt8) (chan : Int) : Bool := nameOk port && decide (0 ≤ chan ∧ chan ≤ 999)

theorem okAll_iff (first : Bool) (l : List UInt8) : okAll first l = true ↔ ∀ j (h : j < l.length), okc (first && j == 0) l[j] = true := by
  induction l generalizing first with
  | nil => simp [okAll]
  | cons c l ih =>
    rw [okAll, Bool.and_eq_true, ih]
    constructor
    · rintro ⟨h1, h2⟩ j hj
      match j with
      | 0 =>
        rw [show (first && (0 : Nat) == 0) = first by simp]
        exact h1
      | j + 1 =>
        have := h2 j (by simpa using hj)
        rw [show (false && j == 0) = false by simp] at this
        rw [show (first && (j + 1) == 0) = false by simp]
        exact this
    · intro h
      refine ⟨?_, fun j hj => ?_⟩
      · have h0 := h 0 (by simp)
        rw [show (first && (0 : Nat) == 0) = first by simp] at h0
        exact h0
      · have := h (j + 1) (by simpa using hj)
        rw [show (first && (j + 1) == 0) = false by simp] at this
        rw [show (false && j == 0) = false by simp]
        exact this

theorem okAll_bad (l : List UInt8) (k : Nat) (hk : k < l.length) (h : okc (k == 0) l[k] = false) : okAll true l = false := by
  rw [← Bool.not_eq_true]
  intro h'
  have := (okAll_iff true l).1 h' k hk
  simp [h] at this

/-- What the loops keep: the characters so far may stand there. -/
def NameRel (l : List UInt8) (first : Bool) (k : Nat) : Prop := k ≤ l.length ∧ ∀ j (h : j < l.length), j < k → okc (first && j == 0) l[j] = true

theorem NameRel.step {l : List UInt8} {first : Bool} {k : Nat} (h : NameRel l first k) (hk : k < l.length) (ho : okc (first && k == 0) l[k] = true) : NameRel l first (k + 1) :=
  ⟨by omega, fun j hj hjk => by
    rcases Nat.lt_or_ge j k with h1 | h1
    · exact h.2 j hj h1
    · obtain rfl : j = k := by omega
      exact ho⟩
theorem NameRel.all {l : List UInt8} {first : Bool} (h : NameRel l first l.length) : okAll first l = true := (okAll_iff first l).2 fun j hj => h.2 j hj hj

theorem okc_cases (c : UInt8) (first : Bool) (n : Nat) (hn : n = c.toNat) :
    (97 ≤ n ∧ n ≤ 122 ∧ okc first c = true) ∨ (48 ≤ n ∧ n ≤ 57 ∧ okc first c = !first) ∨ (n = 45 ∧ okc first c = !first) ∨ (n < 45 ∧ okc first c = false) ∨ (46 ≤ n ∧ n ≤ 47 ∧ okc first c = false) ∨ (58 ≤ n ∧ n ≤ 96 ∧ okc first c = false) ∨ (123 ≤ n ∧ okc first c = false) := by
  unfold okc isL isO
  rw [← hn]
  rcases (show (97 ≤ n ∧ n ≤ 122) ∨ (48 ≤ n ∧ n ≤ 57) ∨ n = 45 ∨ n < 45 ∨ (46 ≤ n ∧ n ≤ 47) ∨ (58 ≤ n ∧ n ≤ 96) ∨ 123 ≤ n by omega) with h | h | h | h | h | h | h
  · exact .inl ⟨h.1, h.2, by rw [decide_eq_true h]; rfl⟩
  · refine .inr (.inl ⟨h.1, h.2, ?_⟩); rw [decide_eq_false (by omega), decide_eq_true (by omega)]; simp
  · refine .inr (.inr (.inl ⟨h, ?_⟩)); rw [decide_eq_false (by omega), decide_eq_true (by omega)]; simp
  · refine .inr (.inr (.inr (.inl ⟨h, ?_⟩))); rw [decide_eq_false (by omega), decide_eq_false (by omega)]; simp
  · refine .inr (.inr (.inr (.inr (.inl ⟨h.1, h.2, ?_⟩)))); rw [decide_eq_false (by omega), decide_eq_false (by omega)]; simp
  · refine .inr (.inr (.inr (.inr (.inr (.inl ⟨h.1, h.2, ?_⟩))))); rw [decide_eq_false (by omega), decide_eq_false (by omega)]; simp
  · refine .inr (.inr (.inr (.inr (.inr (.inr ⟨h, ?_⟩))))); rw [decide_eq_false (by omega), decide_eq_false (by omega)]; simp

set_option maxRecDepth 100000 in
set_option maxHeartbeats 2000000 in
theorem pathName (l : List UInt8) (w : World) (hl : l.length ≤ 9223372036854775807) :
    Calls Try.prog 187 #[.string ⟨l.toArray⟩] w fun e w' => e = .returned (.bool (nameOk l)) ∧ w = w' := by
  go_enter Try.func187, Try.ntmps187
  go_wp2_with fail
  go_loop [8] (fun i => ∃ k : Nat, i = .int .i64 k ∧ NameRel l true k) (fun i => l.length - (intOf i).toNat)
  case atStart => exact ⟨0, rfl, by omega, fun j _ h => absurd h (by omega)⟩
  case round =>
    obtain ⟨k, rfl, hrel⟩ := hrel
    have HR := Lib.hid hrel
    have hk0 := hrel.1
    clear hrel
    by_cases hk : k < l.length
    case neg =>
      obtain rfl : k = l.length := by omega
      have hall := HR.out.all
      have hval : nameOk l = decide (1 ≤ l.length ∧ l.length ≤ 12) := by unfold nameOk; rw [hall]; simp
      have HV := Lib.hid hval
      clear hval hall
      by_cases h1 : l = []
      · subst h1
        clear hk0 hk HR
        go_wp2_with fail
        go_ret
        exact ⟨ret_bool (by rw [HV.out]; simp), rfl⟩
      · have h1' : l.isEmpty = false := by simpa using h1
        have h1n : 1 ≤ l.length := by cases l <;> simp at h1 ⊢
        have HN := Lib.hid h1n
        have HQ := Lib.hid h1
        clear h1 h1n hk
        by_cases h2 : l.length ≤ 12
        · have h2' : (l.length : Int) ≤ 12 := by omega
          go_wp2_with fail
          go_ret
          exact ⟨ret_bool (by rw [HV.out, decide_eq_true ⟨HN.out, h2⟩]), rfl⟩
        · have h2' : ¬ (l.length : Int) ≤ 12 := by omega
          go_wp2_with fail
          go_ret
          exact ⟨ret_bool (by rw [HV.out, decide_eq_false (by omega)]), rfl⟩
    obtain ⟨b, hb2⟩ : ∃ b, b = l[k].toNat := ⟨_, rfl⟩
    have hbyte : ((ByteArray.mk l.toArray)[k]'(by simpa [ByteArray.size] using hk)).toNat = b := by rw [hb2]; rfl
    have hb1 : b < 256 := by rw [hb2]; exact l[k].toNat_lt
    have hcs := okc_cases l[k] (k == 0) b hb2
    clear hb2
    have hi1 : (k : Int) < l.length := by omega
    have bad : Hid (okc (k == 0) l[k] = false → nameOk l = false) := fun h => by unfold nameOk; rw [okAll_bad l k hk h]; rfl
    have good : Hid (okc (k == 0) l[k] = true → NameRel l true (k + 1)) := fun h => HR.out.step hk (by simpa using h)
    generalize okc (k == 0) l[k] = ok at *
    by_cases hz : k = 0
    · have hz' : ((k : Int) == 0) = true := by simp [hz]
      have hz2 : (k == 0) = true := by simp [hz]
      rw [hz2] at hcs
      have HZ := Lib.hid hz
      clear hz hz2
      rcases hcs with ⟨h1, h2, rfl⟩ | ⟨h1, h2, rfl⟩ | ⟨h1, rfl⟩ | ⟨h1, rfl⟩ | ⟨h1, h2, rfl⟩ | ⟨h1, h2, rfl⟩ | ⟨h1, rfl⟩
      all_goals
        rcases Bool.eq_false_or_eq_true (decide ((97 : Int) ≤ (b : Int))) with d1 | d1 <;> first | (exfalso; simp at d1; omega) | skip
        rcases Bool.eq_false_or_eq_true (decide ((b : Int) ≤ 122)) with d2 | d2 <;> first | (exfalso; simp at d2; omega) | skip
        rcases Bool.eq_false_or_eq_true (decide ((48 : Int) ≤ (b : Int))) with d3 | d3 <;> first | (exfalso; simp at d3; omega) | skip
        rcases Bool.eq_false_or_eq_true (decide ((b : Int) ≤ 57)) with d4 | d4 <;> first | (exfalso; simp at d4; omega) | skip
        rcases Bool.eq_false_or_eq_true (((b : Int) == 45)) with d5 | d5 <;> first | (exfalso; simp at d5; omega) | skip
      all_goals first
        | (go_wp2_with fail; exact ⟨⟨k + 1, by go_num, good.out (by simp)⟩, by simp [intOf]; omega⟩)
        | (go_wp2_with fail; go_ret; exact ⟨ret_bool (by rw [bad.out (by simp)]), rfl⟩)
    · have hz' : ((k : Int) == 0) = false := by simp [hz]
      have hz2 : (k == 0) = false := by simp [hz]
      rw [hz2] at hcs
      have HZ := Lib.hid hz
      clear hz hz2
      rcases hcs with ⟨h1, h2, rfl⟩ | ⟨h1, h2, rfl⟩ | ⟨h1, rfl⟩ | ⟨h1, rfl⟩ | ⟨h1, h2, rfl⟩ | ⟨h1, h2, rfl⟩ | ⟨h1, rfl⟩
      all_goals
        rcases Bool.eq_false_or_eq_true (decide ((97 : Int) ≤ (b : Int))) with d1 | d1 <;> first | (exfalso; simp at d1; omega) | skip
        rcases Bool.eq_false_or_eq_true (decide ((b : Int) ≤ 122)) with d2 | d2 <;> first | (exfalso; simp at d2; omega) | skip
        rcases Bool.eq_false_or_eq_true (decide ((48 : Int) ≤ (b : Int))) with d3 | d3 <;> first | (exfalso; simp at d3; omega) | skip
        rcases Bool.eq_false_or_eq_true (decide ((b : Int) ≤ 57)) with d4 | d4 <;> first | (exfalso; simp at d4; omega) | skip
        rcases Bool.eq_false_or_eq_true (((b : Int) == 45)) with d5 | d5 <;> first | (exfalso; simp at d5; omega) | skip
      all_goals first
        | (go_wp2_with fail; exact ⟨⟨k + 1, by go_num, good.out (by simp)⟩, by simp [intOf]; omega⟩)
        | (go_wp2_with fail; go_ret; exact ⟨ret_bool (by rw [bad.out (by simp)]), rfl⟩)


set_option maxRecDepth 100000 in
set_option maxHeartbeats 1000000 in
theorem pathMay (l : List UInt8) (c : Int) (w : World) (hl : l.length ≤ 9223372036854775807) :
    Calls Try.prog 152 #[.agg #[.string ⟨l.toArray⟩, .int .i64 c]] w fun e w' => e = .returned (.bool (mayEnd l c)) ∧ Below w.heap.size w w' := by
  have HN : Hid (∀ W, _) := fun W => pathName l W hl
  have HV : Hid (mayEnd l c = (nameOk l && decide (0 ≤ c ∧ c ≤ 999))) := rfl
  generalize nameOk l = b at *
  cases b
  · skip
    go_enter Try.func152, Try.ntmps152
    go_wp2_with (first
      | (go_at_call 187; refine (HN.out _).mono ?_; rintro e w2 ⟨rfl, rfl⟩))
    go_ret
    exact ⟨ret_bool (by rw [HV.out]; rfl), (Below.refl _ _).alloc (Nat.le_refl _) _⟩
  · by_cases h0 : 0 ≤ c
    · by_cases h1 : c ≤ 999
      all_goals
        go_enter Try.func152, Try.ntmps152
        go_wp2_with (first
          | (go_at_call 187; refine (HN.out _).mono ?_; rintro e w2 ⟨rfl, rfl⟩))
        go_ret
        exact ⟨ret_bool (by rw [HV.out]; simp; omega), (Below.refl _ _).alloc (Nat.le_refl _) _⟩
    · skip
      go_enter Try.func152, Try.ntmps152
      go_wp2_with (first
        | (go_at_call 187; refine (HN.out _).mono ?_; rintro e w2 ⟨rfl, rfl⟩))
      go_ret
      exact ⟨ret_bool (by rw [HV.out]; simp; omega), (Below.refl _ _).alloc (Nat.le_refl _) _⟩


end Go.Proofs.Ytcgoaicifjndpaa
end
