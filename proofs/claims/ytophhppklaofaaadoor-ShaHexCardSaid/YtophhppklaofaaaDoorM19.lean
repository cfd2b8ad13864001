/- Sums that come in, opened. -/
import Derived.Test.YtophhppklaofaaaDoorOpenSl
import Derived.Test.YtophhppklaofaaaDoorM16
import Derived.Test.YtophhppklaofaaaDoorVShaWalk
section
namespace Go.Proofs.YtophhppklaofaaaDoor
open Go.ChangeShapes Go.WideShapes Go.ChangeAt Go.RowKit
set_option linter.unusedVariables false
set_option linter.unusedSimpArgs false
section
variable {H : Type} {enc : TypeId × Value → H} {w : World} {base : Nat}
theorem cellsG_u8 : Tryd.prog.cellsOf 5 = 1 := by kernel_rfl
theorem cellsG_Hash : Tryd.prog.cellsOf 24 = 32 := by kernel_rfl
/-- A sum's bytes, as values. -/
def hashV (f : Nat → Int) : List Value := (List.range 32).map fun i => .int .u8 (f i)
theorem hashC_is (f : Nat → Int) (ρ : List Vx.Pl) : Vx.IsL ρ (Vx.hashC f) (hashV f) := rfl
set_option maxRecDepth 100000 in
theorem trod_Hash {spare : Nat → Bool} {held : Bool} {b0 fuel : Nat} {l : List Value} {x : DataW H × List MemPlace} (hf : DataW.trod enc Tryd.prog w b0 spare held fuel 24 l = some x) :
    l.length = 32 ∧ ∃ f : Nat → Int, l = hashV f ∧ ∀ i, 0 ≤ f i ∧ f i < 256 := by
  obtain ⟨xs, m, _, _, hl, hlen, hff⟩ := DataW.trod_array Tryd.underlying24 hf
  rw [cellsG_Hash] at hl
  have each : ∀ i (h : i < 32), ∃ n : Int, l[i]'(by omega) = .int .u8 n ∧ 0 ≤ n ∧ n < 256 := fun i h => by
    have f := hff i h
    rw [cellsG_u8] at f
    have e := List.getElem?_eq_getElem (l := xs) (i := i) (by omega)
    rw [e] at f
    obtain ⟨n, e1, _, hw⟩ := DataW.trod_int Tryd.underlying5 f
    have hb : 0 ≤ n ∧ n ≤ 255 := bounds_u8 hw
    have e2 : (List.drop (i * 1) l).take 1 = [l[i]'(by omega)] := by
      rw [Nat.mul_one, List.drop_eq_getElem_cons (by omega)]
      rfl
    rw [e2] at e1
    exact ⟨n, by simpa using e1, hb.1, by omega⟩
  refine ⟨hl, fun i => if h : i < 32 then Classical.choose (each i h) else 0, ?_, fun i => ?_⟩
  · apply List.ext_getElem
    · simp [hashV, hl]
    · intro i h1 h2
      simp only [hashV, List.length_map, List.length_range] at h2
      simp only [hashV, List.getElem_map, List.getElem_range]
      rw [dif_pos h2]
      exact (Classical.choose_spec (each i h2)).1
  · dsimp only
    split
    · rename_i h
      exact (Classical.choose_spec (each i h)).2
    · omega
set_option maxRecDepth 100000 in
theorem open_Hash {spare : Nat → Bool} {held : Bool} {v : Value} {d : DataW H} {p : List MemPlace} (hv : Value.okWide Tryd.prog w .any base 24 v) (h : DataW.Trod enc Tryd.prog w 0 spare held 24 v d p) :
    ∃ f : Nat → Int, v = .agg (hashV f).toArray ∧ ∀ i, 0 ≤ f i ∧ f i < 256 := by
  simp only [Value.okWide, Tryd.underlying24] at hv
  obtain ⟨cs, rfl, hz⟩ := hv
  obtain ⟨fuel, hf⟩ := h
  obtain ⟨_, f, e, hr⟩ := trod_Hash hf
  refine ⟨f, ?_, hr⟩
  have : cs = (hashV f).toArray := by
    have e' : cs.toList = hashV f := e
    rw [← e']
  rw [this]
end
end Go.Proofs.YtophhppklaofaaaDoor
end

section
/- The laws ShaTells, ShaLess. -/
namespace Go.Proofs.YtophhppklaofaaaDoor
open Go.RowKit Sha
set_option linter.unusedVariables false
set_option linter.unusedSimpArgs false
namespace Vx


/-! ### The order -/


end Vx
end Go.Proofs.YtophhppklaofaaaDoor
end

section
/- A slice that comes in is put beside what is held already. -/
namespace Go.Proofs.YtophhppklaofaaaDoor.Vx
open Go.RowKit
set_option linter.unusedVariables false
set_option linter.unusedSimpArgs false
end Go.Proofs.YtophhppklaofaaaDoor.Vx
end

section
/- The laws ShaTells, ShaLess, from a world in which the sums' words stand. -/
namespace Go.Proofs.YtophhppklaofaaaDoor
open Go.RowKit
set_option linter.unusedVariables false
set_option linter.unusedSimpArgs false
end Go.Proofs.YtophhppklaofaaaDoor
end

section
/- The law ShaHex, by the walker. -/
namespace Go.Proofs.YtophhppklaofaaaDoor
open Go.RowKit Sha
set_option linter.unusedVariables false
set_option linter.unusedSimpArgs false
namespace Vx
theorem hexL_getD (l : List UInt8) (j : Nat) (hj : j < l.length) : (hexL l).getD (2 * j) 0 = dig ((l.getD j 0).toNat / 16) ∧ (hexL l).getD (2 * j + 1) 0 = dig ((l.getD j 0).toNat % 16) := by
  induction l generalizing j with
  | nil => simp at hj
  | cons b l ih =>
    cases j with
    | zero => exact ⟨rfl, rfl⟩
    | succ j =>
      have := ih j (by simpa using hj)
      show ((hexB b ++ hexL l).getD (2 * (j + 1)) 0 = _) ∧ ((hexB b ++ hexL l).getD (2 * (j + 1) + 1) 0 = _)
      rw [show 2 * (j + 1) = (2 * j) + 1 + 1 by omega]
      exact this
theorem ix_dig (n : Nat) (h : n < 16) : ixB digs ((dig n).toNat : Int) = (n : Int) := by
  have key : ∀ j : Fin 16, ixB digs ((dig j.1).toNat : Int) = (j.1 : Int) := by decide +kernel
  exact key ⟨n, h⟩
theorem dig_of_ix (a : UInt8) (h : 0 ≤ ixB digs (a.toNat : Int)) : dig (ixB digs (a.toNat : Int)).toNat = a := by
  have key : ∀ j : Fin 256, 0 ≤ ixB digs (j.1 : Int) → dig (ixB digs (j.1 : Int)).toNat = UInt8.ofNat j.1 := by decide +kernel
  have := key ⟨a.toNat, a.toNat_lt⟩ h
  simpa using this
theorem hv_hex (l : List UInt8) (j : Nat) (hj : j < l.length) : hv (hexL l) (2 * j) = ((l.getD j 0).toNat / 16 : Nat) ∧ hv (hexL l) (2 * j + 1) = ((l.getD j 0).toNat % 16 : Nat) := by
  obtain ⟨h1, h2⟩ := hexL_getD l j hj
  have hb := (l.getD j 0).toNat_lt
  unfold hv
  rw [h1, h2]
  exact ⟨ix_dig _ (by omega), ix_dig _ (by omega)⟩
theorem unE_hex (l : List UInt8) (hl : l.length = 32) : unE (hexL l) = 0 := by
  have h := hexL_len l
  unfold unE
  rw [if_neg (by omega), if_neg (by omega), if_pos]
  refine hexOk_iff.2 fun k hk => ?_
  obtain ⟨h1, h2⟩ := hv_hex l (k / 2) (by omega)
  rcases Nat.mod_two_eq_zero_or_one k with h3 | h3
  · rw [show k = 2 * (k / 2) by omega, h1]; omega
  · rw [show k = 2 * (k / 2) + 1 by omega, h2]; omega
theorem hashB_getD (f : Nat → Int) (j : Nat) (hj : j < 32) : (hashB f).getD j 0 = UInt8.ofNat (f j).toNat := by
  unfold hashB
  rw [List.getD_eq_getElem?_getD, List.getElem?_map, List.getElem?_range hj]
  rfl
theorem unF_hex (f : Nat → Int) (hf : ∀ i, 0 ≤ f i ∧ f i < 256) (j : Nat) (hj : j < 32) : unF (hexL (hashB f)) j = f j := by
  unfold unF
  rw [if_pos (unE_hex _ (hashB_len f))]
  unfold pref
  rw [if_pos (by omega)]
  obtain ⟨h1, h2⟩ := hv_hex (hashB f) j (by rw [hashB_len]; exact hj)
  have := hf j
  rw [h1, h2, hashB_getD f j hj, UInt8.toNat_ofNat_of_lt' (by show _ < 256; omega)]
  omega
theorem unF_range (s : List UInt8) (j : Nat) : 0 ≤ unF s j ∧ unF s j < 256 := by
  unfold unF
  by_cases h : unE s = 0
  · rw [if_pos h]
    unfold unE at h
    split at h
    · cases h
    · split at h
      · cases h
      · split at h
        rotate_left
        · cases h
        rename_i h1 h2 h3
        have hk := hexOk_iff.1 h3
        have a1 := hv_range s (2 * j)
        have a2 := hv_range s (2 * j + 1)
        unfold pref
        split
        · have b1 := hk (2 * j) (by omega)
          have b2 := hk (2 * j + 1) (by omega)
          omega
        · split
          · have b1 := hk (2 * j) (by omega)
            omega
          · omega
  · rw [if_neg h]; omega
theorem rhOk_64 (s : List UInt8) (h : s.length = 64) : rhOk s = hexOk s := by
  unfold rhOk pairsOk hexOk
  rw [h]
  simp
theorem unF_text (s : List UInt8) (h : s.length = 64) (hk : hexOk s = true) : hashB (unF s) = rhF s ∧ hexL (hashB (unF s)) = s := by
  have e : unE s = 0 := by unfold unE; rw [if_neg (by omega), if_neg (by omega), if_pos hk]
  have hk2 := hexOk_iff.1 hk
  have ef : ∀ j, j < 32 → unF s j = 16 * hv s (2 * j) + hv s (2 * j + 1) := fun j hj => by
    unfold unF pref
    rw [if_pos e, if_pos (by omega)]
  have e1 : hashB (unF s) = rhB s 32 := by
    unfold hashB rhB
    refine List.map_congr_left fun j hj => ?_
    rw [ef j (List.mem_range.1 hj)]
  have hp : pairsOk s = true := pairsOk_iff.2 fun k hk3 => hk2 k (by omega)
  refine ⟨?_, ?_⟩
  · unfold rhF
    rw [if_pos hp, h, e1]
  · have hl : (hexL (hashB (unF s))).length = 64 := by rw [hexL_len, hashB_len]
    have eg : ∀ k, k < 64 → (hexL (hashB (unF s))).getD k 0 = s.getD k 0 := fun k hk3 => by
      obtain ⟨h1, h2⟩ := hexL_getD (hashB (unF s)) (k / 2) (by rw [hashB_len]; omega)
      have r1 := hv_range s (2 * (k / 2))
      have r2 := hv_range s (2 * (k / 2) + 1)
      have b1 := hk2 (2 * (k / 2)) (by omega)
      have b2 := hk2 (2 * (k / 2) + 1) (by omega)
      have hb : ((hashB (unF s)).getD (k / 2) 0).toNat = (16 * hv s (2 * (k / 2)) + hv s (2 * (k / 2) + 1)).toNat := by
        rw [hashB_getD _ _ (by omega), ef _ (by omega), UInt8.toNat_ofNat_of_lt' (by show _ < 256; omega)]
      rw [hb] at h1 h2
      rcases Nat.mod_two_eq_zero_or_one k with h3 | h3
      · rw [show 2 * (k / 2) = k by omega] at h1 r1 b1 h2 r2 b2
        rw [h1, show (16 * hv s k + hv s (k + 1)).toNat / 16 = (hv s k).toNat by omega]
        exact dig_of_ix _ b1
      · rw [show 2 * (k / 2) + 1 = k by omega] at h2 r2 b2
        rw [h2, show (16 * hv s (2 * (k / 2)) + hv s k).toNat % 16 = (hv s k).toNat by omega]
        exact dig_of_ix _ b2
    apply List.ext_getElem
    · rw [hl, h]
    · intro k h1 h2
      have := eg k (by omega)
      rw [List.getD_eq_getElem?_getD, List.getD_eq_getElem?_getD, List.getElem?_eq_getElem h1, List.getElem?_eq_getElem h2] at this
      exact this
def hexLPre (gg sz n : Nat) (get : Nat → List CV) (xs : List CV) (s : List UInt8) : Prop := KsAt gg sz n get ∧ HashC xs
def sHexL : SpecF
  | [.agg xs, .c (.str s)], [.glob gg sz n get] => some (hexLPre gg sz n get xs s, .c .tt, [.dead])
  | _, _ => none

set_option maxRecDepth 100000 in
set_option maxHeartbeats 8000000 in
theorem hexLP : Fn Tryd.prog 6 [0] [] sHexL := by
  have hC : CtsOk Tryd.prog [(16, appFn [0] [] sFirst2), (23, appPure sHex), (27, appPure sFromHex), (28, appPure sRFromHex), (22, appPure sText)] := CtsOk.cons (Fn.ct firstP) <| CtsOk.cons (Pure.ct hexP) <| CtsOk.cons (Pure.ct fromHexP) <| CtsOk.cons (Pure.ct rfromHexP) <| CtsOk.cons (Pure.ct rtextP) <| CtsOk.nil _
  refine Fn.of (E := tbC) [0] 0 [] tbC_ok hC (by kernel_rfl) Tryd.func6 rfl rfl rfl (by kernel_rfl) (by kernel_rfl) 1 5 1 ?_ ?_
  · intro args h pre r h' hs
    unfold sHexL at hs
    split at hs
    · cases hs; exact ⟨rfl, rfl, Nat.le_of_ble_eq_true rfl⟩
    · cases hs
  · intro args h pre r h' hs hp
    unfold sHexL at hs
    split at hs
    rotate_left
    · cases hs
    rename_i xs s gg sz n get
    cases hs
    obtain ⟨hK, ⟨f, rfl, hf⟩⟩ := hp
    refine ⟨_, hK.same, ?_⟩
    clear hK
    unfold hashC
    unfold sFirst2 sHex sFromHex sRFromHex sText
    generalize hg0 : KsAt = g0
    generalize hg1 : kOf = g1
    generalize hg2 : HashC = g2
    generalize hg3 : hexL = g3
    generalize hg4 : u8s = g4
    generalize hg5 : unE = g5
    generalize hg6 : unF = g6
    generalize hg7 : rhF = g7
    generalize hg8 : rhOk = g8
    generalize hg9 : rhexPre = g9
    generalize hg10 : (List.length : List UInt8 → Nat) = g10
    generalize hA : Arith.std = A
    cbv
    subst hA hg0 hg1 hg2 hg3 hg4 hg5 hg6 hg7 hg8 hg9 hg10
    have hx0 : unE (hexL (hashB f)) = 0 := unE_hex _ (hashB_len f)
    have lx : (hexL (hashB f)).length = 64 := by rw [hexL_len, hashB_len]
    have hxe : eqH (unF (hexL (hashB f))) f = true := eqH_iff.2 (unF_hex f hf)
    have hcF : HashC (hashC (unF s)) := ⟨_, rfl, unF_range s⟩
    have hz : unE s ≠ 0 → eqH (unF s) (fun _ => 0) = true := fun h => by rw [zeroF h]; exact eqH_self _
    refine Need.mk ksAt_self fun _ => ?_
    refine Ife.mk (fun _ => Need.mk ksAt_self fun _ => by exact ⟨[0], ⟨rfl, by repeat' (first | exact trivial | exact rfl | apply And.intro), by decide, rfl, by repeat' (first | exact trivial | exact rfl | apply And.intro)⟩⟩) (fun h1 => ?_)
    have h1 : s.length ≤ 200 := by have := of_decide_eq_false (p := (200 : Int) < (s.length : Int)) h1; omega
    refine Need.mk ⟨f, rfl, hf⟩ fun _ => ?_
    refine Need.mk (by show (hexL (hashB f)).length ≤ 140737488355328; omega) fun _ => Need.mk (by show s.length ≤ 140737488355328; omega) fun _ => ?_
    refine Ife.mk (fun hb => absurd (show (!decide (unE (hexL (hashB f)) = 0)) = true from hb) (by rw [hx0]; decide)) (fun _ => ?_)
    refine Ife.mk (fun hb => absurd (show (!eqH (unF (hexL (hashB f))) f) = true from hb) (by rw [hxe]; decide)) (fun _ => ?_)
    refine Need.mk (by show s.length ≤ 1000000; omega) fun _ => ?_
    refine Ife.mk (fun a => ?_) (fun a => ?_)
    · have a : s.length < 64 := by have := of_decide_eq_true (p := (s.length : Int) < 64) a; omega
      have e : unE s = 2 := by unfold unE; rw [if_pos a]
      refine Ife.mk (fun _ => ?_) (fun hb => absurd ((show decide (unE s = 2) = true from by rw [e]; rfl).symm.trans hb) (by decide))
      exact ⟨[0], ⟨rfl, (show eqH (unF s) (fun _ => 0) = true from hz (by rw [e]; decide)), by decide, rfl, by repeat' (first | exact trivial | exact rfl | apply And.intro)⟩⟩
    have a : 64 ≤ s.length := by have := of_decide_eq_false (p := (s.length : Int) < 64) a; omega
    refine Ife.mk (fun b => ?_) (fun b => ?_)
    · have b : 64 < s.length := by have := of_decide_eq_true (p := (64 : Int) < (s.length : Int)) b; omega
      have e : unE s = 4 := by unfold unE; rw [if_neg (by omega), if_pos b]
      refine Ife.mk (fun _ => ?_) (fun hb => absurd ((show decide (unE s = 4) = true from by rw [e]; rfl).symm.trans hb) (by decide))
      exact ⟨[0], ⟨rfl, (show eqH (unF s) (fun _ => 0) = true from hz (by rw [e]; decide)), by decide, rfl, by repeat' (first | exact trivial | exact rfl | apply And.intro)⟩⟩
    have b : s.length = 64 := by have := of_decide_eq_false (p := (64 : Int) < (s.length : Int)) b; omega
    have eo := rhOk_64 s b
    refine Ife.mk (fun c => ?_) (fun c => ?_)
    · have c : (!rhOk s) = true := c
      rw [eo] at c
      have c : hexOk s = false := by simpa using c
      have e : unE s = 3 := by unfold unE; rw [if_neg (by omega), if_neg (by omega), c]; rfl
      refine Ife.mk (fun _ => ?_) (fun hb => absurd ((show decide (unE s = 3) = true from by rw [e]; rfl).symm.trans hb) (by decide))
      exact ⟨[0], ⟨rfl, (show eqH (unF s) (fun _ => 0) = true from hz (by rw [e]; decide)), by decide, rfl, by repeat' (first | exact trivial | exact rfl | apply And.intro)⟩⟩
    have c : (!rhOk s) = false := c
    rw [eo] at c
    have c : hexOk s = true := by simpa using c
    have e : unE s = 0 := by unfold unE; rw [if_neg (by omega), if_neg (by omega), if_pos c]
    obtain ⟨t1, t2⟩ := unF_text s b c
    refine Ife.mk (fun _ => ?_) (fun hb => absurd ((show decide (unE s = 0) = true from by rw [e]; rfl).symm.trans hb) (by decide))
    refine Need.mk hcF fun _ => ?_
    refine Ife.mk (fun _ => ?_) (fun hb => absurd ((show decide (u8s (hashC (unF s)) = rhF s) = true from decide_eq_true t1).symm.trans hb) (by decide))
    refine Need.mk hcF fun _ => ?_
    exact ⟨[0], ⟨rfl, (show decide (hexL (u8s (hashC (unF s))) = s) = true from decide_eq_true t2), by decide, rfl, by repeat' (first | exact trivial | exact rfl | apply And.intro)⟩⟩

end Vx
theorem shaHexWalk (w : World) (hk : ∀ i, i < 64 → w.cell? ⟨0, i, none⟩ = some (.int .u32 (Sha.kOf i))) (f : Nat → Int) (hf : ∀ i, 0 ≤ f i ∧ f i < 256) (s : ByteArray) (hs : s.size ≤ maxLen) :
    Calls Tryd.prog 6 #[.agg (hashV f).toArray, .string s] w fun e w' => e = .returned (.bool true) ∧ Below w.heap.size w w' := by
  obtain ⟨l, rfl⟩ : ∃ l : List UInt8, s = ⟨l.toArray⟩ := ⟨s.data.toList, by cases s; simp⟩
  refine Calls.mono (Vx.hexLP.run [.agg (Vx.hashC f), .c (.str l)] [.glob 0 1 64 (fun i => [.int .u32 (Sha.kOf i)])] _ _ _ rfl
    ⟨Vx.ksAt_self, ⟨_, rfl, hf⟩⟩ [⟨0, undef, 0⟩] w _ (Vx.relGlob hk) ⟨_, _, rfl, ⟨_, hashC_is f _, rfl⟩, _, _, rfl, rfl, rfl⟩) fun e W' he => ?_
  obtain ⟨u, ρ', rfl, hu, hr⟩ := he
  obtain rfl : .bool true = u := Option.some.inj hu
  exact ⟨rfl, Vx.Rel.toBelow hr⟩
end Go.Proofs.YtophhppklaofaaaDoor
end
