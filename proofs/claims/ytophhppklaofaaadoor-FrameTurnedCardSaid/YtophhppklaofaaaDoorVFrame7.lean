/- The laws FrameTurned, FrameAll, by the walker. -/
import Derived.Test.YtophhppklaofaaaDoorM20
import Derived.Test.YtophhppklaofaaaDoorM19
namespace Go.Proofs.YtophhppklaofaaaDoor.Vx
open Go.RowKit Sha
set_option linter.unusedVariables false
set_option linter.unusedSimpArgs false
theorem xor_byte (n x : Int) (h0 : 0 ≤ n) (h1 : n < 256) (hx0 : 0 ≤ x) (hx1 : x ≤ 255) (hx : ¬ x = 0) : 0 ≤ bitsStd .xor .u8 n x ∧ bitsStd .xor .u8 n x < 256 ∧ bitsStd .xor .u8 n x ≠ n := by
  obtain ⟨a, rfl⟩ : ∃ a : Nat, n = (a : Int) := ⟨n.toNat, by omega⟩
  obtain ⟨b, rfl⟩ : ∃ b : Nat, x = (b : Int) := ⟨x.toNat, by omega⟩
  have e : bitsStd .xor .u8 (a : Int) (b : Int) = (((BitVec.ofNat 8 a ^^^ BitVec.ofNat 8 b).toNat : Nat) : Int) := by
    show IntKind.wrap .u8 ((((BitVec.ofInt 8 (a : Int)) ^^^ (BitVec.ofInt 8 (b : Int))).toNat : Nat) : Int) = _
    rw [BitVec.ofInt_natCast, BitVec.ofInt_natCast, wrap_u8]
    have := (BitVec.ofNat 8 a ^^^ BitVec.ofNat 8 b).isLt
    omega
  have hlt := (BitVec.ofNat 8 a ^^^ BitVec.ofNat 8 b).isLt
  rw [e]
  refine ⟨by omega, by omega, fun h => ?_⟩
  have h2 : BitVec.ofNat 8 a ^^^ BitVec.ofNat 8 b = BitVec.ofNat 8 a := by
    apply BitVec.eq_of_toNat_eq
    rw [BitVec.toNat_ofNat, Nat.mod_eq_of_lt (by omega)]
    omega
  have h3 : BitVec.ofNat 8 a ^^^ (BitVec.ofNat 8 a ^^^ BitVec.ofNat 8 b) = BitVec.ofNat 8 b := by rw [← BitVec.xor_assoc, BitVec.xor_self, BitVec.zero_xor]
  rw [h2, BitVec.xor_self] at h3
  have h4 := congrArg BitVec.toNat h3
  simp only [BitVec.toNat_ofNat] at h4
  omega
def turnedPre (gg sz n : Nat) (get : Nat → List CV) (x : Int) : Prop := KsAt gg sz n get ∧ 0 ≤ x ∧ x ≤ 255
def sTurned : SpecF
  | [.c (.str b), .c (.int .i64 a), .c (.int .u8 x), .c (.int .i64 c), .c (.str mo)], [.glob gg sz n get] => some (turnedPre gg sz n get x, .c .tt, [.dead])
  | _, _ => none

set_option maxRecDepth 100000 in
set_option maxHeartbeats 8000000 in
theorem turnedP : Fn Tryd.prog 7 [0] [] sTurned := by
  have hC : CtsOk Tryd.prog [(29, appFn [0] [] sFirst11), (30, appFn [0] [] sPut), (31, appFn [0] [] sOpen)] := CtsOk.cons (Fn.ct first11P) <| CtsOk.cons (Fn.ct putP) <| CtsOk.cons (Fn.ct openP) <| CtsOk.nil _
  refine Fn.of (E := tbF0) [0] 0 [] tbF0_ok hC (by kernel_rfl) Tryd.func7 rfl rfl rfl (by kernel_rfl) (by kernel_rfl) 1 5 1 ?_ ?_
  · intro args h pre r h' hs
    unfold sTurned at hs
    split at hs
    · cases hs; exact ⟨rfl, rfl, Nat.le_of_ble_eq_true rfl⟩
    · cases hs
  · intro args h pre r h' hs hp
    unfold sTurned at hs
    split at hs
    rotate_left
    · cases hs
    rename_i b a x c mo gg sz n get
    cases hs
    obtain ⟨hK, hx0, hx1⟩ := hp
    refine ⟨_, hK.same, ?_⟩
    clear hK
    unfold sFirst11 sPut
    generalize ht0 : CV.int .i64 c = zt0
    generalize ht1 : CV.int .i64 a = zt1
    generalize ht2 : CV.int .u8 x = zt2
    generalize hg0 : putPre = g0
    generalize hg1 : nextPre = g1
    generalize hg2 : putF = g2
    generalize hg3 : putE = g3
    generalize hg4 : openF = g4
    generalize hg5 : byteL = g5
    generalize hg6 : byteN = g6
    generalize hg7 : KsAt = g7
    generalize hg8 : kOf = g8
    generalize hg9 : (List.length : List UInt8 → Nat) = g9
    generalize ho0 : @byteN = zo0
    generalize hs0 : @sOpen = zs0
    generalize hA : Arith.std = A
    cbv
    subst hA hg0 hg1 hg2 hg3 hg4 hg5 hg6 hg7 hg8 hg9 ho0 hs0 ht0 ht1 ht2
    unfold sOpen
    generalize ht0 : CV.int .i64 c = zt0
    generalize ht1 : CV.int .i64 a = zt1
    generalize ht2 : CV.int .u8 x = zt2
    generalize hg0 : putPre = g0
    generalize hg1 : nextPre = g1
    generalize hg2 : putF = g2
    generalize hg3 : putE = g3
    generalize hg4 : openF = g4
    generalize hg5 : byteL = g5
    generalize hg6 : byteN = g6
    generalize hg7 : KsAt = g7
    generalize hg8 : kOf = g8
    generalize hg9 : (List.length : List UInt8 → Nat) = g9
    generalize ho0 : @byteN = zo0
    generalize hA : Arith.std = A
    cbv
    subst hA hg0 hg1 hg2 hg3 hg4 hg5 hg6 hg7 hg8 hg9 ho0 ht0 ht1 ht2
    generalize ht0 : CV.int .i64 a = zt0
    generalize ht1 : CV.int .u8 x = zt1
    generalize hg0 : putPre = g0
    generalize hg1 : nextPre = g1
    generalize hg2 : putF = g2
    generalize hg3 : putE = g3
    generalize hg4 : openF = g4
    generalize hg5 : byteL = g5
    generalize hg6 : byteN = g6
    generalize hg7 : KsAt = g7
    generalize hg8 : kOf = g8
    generalize hg9 : (List.length : List UInt8 → Nat) = g9
    generalize ho0 : @byteN = zo0
    generalize hA : Arith.std = A
    cbv
    subst hA hg0 hg1 hg2 hg3 hg4 hg5 hg6 hg7 hg8 hg9 ho0 ht0 ht1
    generalize ht0 : CV.int .u8 x = zt0
    generalize hg0 : putPre = g0
    generalize hg1 : nextPre = g1
    generalize hg2 : putF = g2
    generalize hg3 : putE = g3
    generalize hg4 : openF = g4
    generalize hg5 : byteL = g5
    generalize hg6 : byteN = g6
    generalize hg7 : KsAt = g7
    generalize hg8 : kOf = g8
    generalize hg9 : (List.length : List UInt8 → Nat) = g9
    generalize ho0 : @byteN = zo0
    generalize hA : Arith.std = A
    cbv
    subst hA hg0 hg1 hg2 hg3 hg4 hg5 hg6 hg7 hg8 hg9 ho0 ht0
    generalize hg0 : putPre = g0
    generalize hg1 : nextPre = g1
    generalize hg2 : putF = g2
    generalize hg3 : putE = g3
    generalize hg4 : openF = g4
    generalize hg5 : byteL = g5
    generalize hg6 : byteN = g6
    generalize hg7 : KsAt = g7
    generalize hg8 : kOf = g8
    generalize hg9 : (List.length : List UInt8 → Nat) = g9
    generalize ho0 : @byteN = zo0
    generalize hA : Arith.std = A
    cbv
    subst hA hg0 hg1 hg2 hg3 hg4 hg5 hg6 hg7 hg8 hg9 ho0
    try simp only [← List.get?Internal.eq_def]
    have tt : ∀ {p : Prop} [Decidable p], p → decide p = true := fun h => decide_eq_true h
    refine Need.mk ksAt_self fun _ => ?_
    refine Ife.mk (fun _ => Need.mk ksAt_self fun _ => by exact ⟨[0], ⟨rfl, by repeat' (first | exact trivial | exact rfl | apply And.intro), by decide, rfl, by repeat' (first | exact trivial | exact rfl | apply And.intro)⟩⟩) (fun h1 => ?_)
    refine Ife.mk (fun _ => Need.mk ksAt_self fun _ => by exact ⟨[0], ⟨rfl, by repeat' (first | exact trivial | exact rfl | apply And.intro), by decide, rfl, by repeat' (first | exact trivial | exact rfl | apply And.intro)⟩⟩) (fun h2 => ?_)
    refine Ife.mk (fun _ => Need.mk ksAt_self fun _ => by exact ⟨[0], ⟨rfl, by repeat' (first | exact trivial | exact rfl | apply And.intro), by decide, rfl, by repeat' (first | exact trivial | exact rfl | apply And.intro)⟩⟩) (fun h3 => ?_)
    have h1 : b.length ≤ 2000 := by have := of_decide_eq_false (p := (2000 : Int) < (b.length : Int)) h1; omega
    have h2 : mo.length ≤ 200 := by have := of_decide_eq_false (p := (200 : Int) < (mo.length : Int)) h2; omega
    have h3 : mo ≠ [] := by
      have := of_decide_eq_false (p := (mo.length : Int) = 0) h3
      intro h
      rw [h] at this
      exact this rfl
    obtain ⟨hl, he⟩ := put_len b (by omega)
    have o1 := open_put b (by omega)
    have o2 := open_more b mo (by omega) h3
    have o3 := fun k hk => open_cut b k (by omega) hk
    have o4 := fun k v hk hv => open_turned b k v (by omega) hk hv
    refine Need.mk ⟨ksAt_self, by omega⟩ fun _ => ?_
    refine Ife.mk (fun hb => absurd (show (!decide (putE b = 0)) = true from hb) (by rw [tt he]; decide)) (fun _ => ?_)
    refine Need.mk (by show fitStd .i64 (8 + (b.length : Int)); unfold fitStd; omega) fun _ => ?_
    refine Ife.mk (fun hb => absurd (show (!decide (((putF b).length : Int) = 8 + (b.length : Int))) = true from hb) (by rw [tt (by omega)]; decide)) (fun _ => ?_)
    have hK1 : nextPre 0 1 64 (fun i => [.int .u32 (kOf i)]) (putF b) := ⟨ksAt_self, by omega⟩
    have hK2 : nextPre 0 1 64 (fun i => [.int .u32 (kOf i)]) (putF b ++ mo) := ⟨ksAt_self, by rw [List.length_append]; omega⟩
    refine Need.mk hK1 fun _ => Need.mk (by show ((putF b).length : Int) + (mo.length : Int) ≤ 9223372036854775807; omega) fun _ => Need.mk hK2 fun _ => ?_
    refine Ife.mk (fun hb => absurd (show (!decide ((openF (putF b)).2 = 0)) = true from hb) (by rw [o1]; simp)) (fun _ => ?_)
    refine Ife.mk (fun hb => absurd (show (!decide ((openF (putF b)).1 = b)) = true from hb) (by rw [o1]; simp)) (fun _ => ?_)
    refine Ife.mk (fun hb => absurd (show (!decide ((openF (putF b ++ mo)).2 = 3)) = true from hb) (by rw [o2]; decide)) (fun _ => ?_)
    have hbl := byteL_eq (putF b)
    refine Ife.mk (fun hc0 => ?_) (fun _ => ?_)
    · have hc0 : 0 ≤ c := of_decide_eq_true (p := 0 ≤ c) hc0
      refine Ife.mk (fun hc1 => ?_) (fun _ => ?_)
      · have hc1 : c < ((putF b).length : Int) := of_decide_eq_true (p := c < ((putF b).length : Int)) hc1
        have e3 : Arith.std.sub_ (putF b) 0 c = (putF b).take c.toNat := rfl
        refine Need.mk (by show (0 : Int) ≤ 0 ∧ 0 ≤ c ∧ c ≤ ((putF b).length : Int); omega) fun _ => Need.mk ⟨ksAt_self, (by show ((putF b).take c.toNat).length ≤ 140737488350000; rw [List.length_take]; omega)⟩ fun _ => ?_
        refine Ife.mk (fun hb => absurd (show (!decide ((openF ((putF b).take c.toNat)).2 = 2)) = true from hb) (by rw [o3 c.toNat (by omega)]; decide)) (fun _ => ?_)
        clear e3 hc1 hc0
        refine Ife.mk (fun _ => Need.mk ksAt_self fun _ => by exact ⟨[0], ⟨rfl, by repeat' (first | exact trivial | exact rfl | apply And.intro), by decide, rfl, by repeat' (first | exact trivial | exact rfl | apply And.intro)⟩⟩) (fun ha0 => ?_)
        refine Ife.mk (fun _ => Need.mk ksAt_self fun _ => by exact ⟨[0], ⟨rfl, by repeat' (first | exact trivial | exact rfl | apply And.intro), by decide, rfl, by repeat' (first | exact trivial | exact rfl | apply And.intro)⟩⟩) (fun ha1 => ?_)
        refine Ife.mk (fun _ => Need.mk ksAt_self fun _ => by exact ⟨[0], ⟨rfl, by repeat' (first | exact trivial | exact rfl | apply And.intro), by decide, rfl, by repeat' (first | exact trivial | exact rfl | apply And.intro)⟩⟩) (fun hx2 => ?_)
        have ha0 : ¬ a < 0 := of_decide_eq_false (p := a < 0) ha0
        have ha1 : ¬ 8 ≤ a := of_decide_eq_false (p := (8 : Int) ≤ a) ha1
        have hx2 : ¬ x = 0 := of_decide_eq_false (p := x = 0) hx2
        refine Need.mk (by show (putF b).length + 0 ≤ 140737488355328; omega) fun _ => Need.mk (by show 0 ≤ a ∧ a < ((byteL (putF b) : Nat) : Int); rw [hbl]; omega) fun _ => Need.mk (by show a.toNat < byteL (putF b); rw [hbl]; omega) fun _ => Need.mk (by show 0 ≤ a ∧ a < ((byteL (putF b) : Nat) : Int); rw [hbl]; omega) fun _ => ?_
        clear hK1 hK2 o1 o2 o3 he
        generalize putF b = P at *
        generalize openF = O at *
        have hb0 := (P.getD a.toNat 0).toNat_lt
        obtain ⟨v0, v1, v2⟩ := xor_byte (byteN P a.toNat) x (by unfold byteN; omega) (by unfold byteN; omega) hx0 hx1 hx2
        obtain ⟨w1, w2⟩ := o4 a.toNat (UInt8.ofNat (bitsStd .xor .u8 (byteN P a.toNat) x).toNat) (by omega) (fun h => v2 (by
          have := congrArg UInt8.toNat h
          rw [UInt8.toNat_ofNat_of_lt' (by show _ < 256; omega)] at this
          show _ = (((P.getD a.toNat 0).toNat : Nat) : Int)
          omega))
        refine Need.mk ⟨by show a.toNat + 1 ≤ P.length; omega, by show 0 ≤ bitsStd .xor .u8 (byteN P a.toNat) x ∧ bitsStd .xor .u8 (byteN P a.toNat) x < 256; exact ⟨v0, v1⟩⟩ fun _ => ?_
        refine Need.mk ⟨ksAt_self, by show (P.set a.toNat (UInt8.ofNat (bitsStd .xor .u8 (byteN P a.toNat) x).toNat)).length ≤ 140737488350000; rw [List.length_set]; omega⟩ fun _ => ?_
        refine Ife.mk (fun _ => ?_) (fun hb => absurd (of_decide_eq_true (p := (O (P.set a.toNat (UInt8.ofNat (bitsStd .xor .u8 (byteN P a.toNat) x).toNat))).2 = 0) (by
          have h6 : (!decide ((O (P.set a.toNat (UInt8.ofNat (bitsStd .xor .u8 (byteN P a.toNat) x).toNat))).2 = 0)) = false := hb
          simpa using h6)) w1)
        refine Ife.mk (fun _ => by exact ⟨[0], ⟨rfl, by repeat' (first | exact trivial | exact rfl | apply And.intro), by decide, rfl, by repeat' (first | exact trivial | exact rfl | apply And.intro)⟩⟩) (fun h4 => ?_)
        have h4 : ¬ a < 4 := of_decide_eq_false (p := a < 4) h4
        exact ⟨[0], ⟨rfl, (show decide ((O (P.set a.toNat (UInt8.ofNat (bitsStd .xor .u8 (byteN P a.toNat) x).toNat))).2 = 5) = true from tt (w2 (by omega))), by decide, rfl, by repeat' (first | exact trivial | exact rfl | apply And.intro)⟩⟩
      · clear hc0
        refine Ife.mk (fun _ => Need.mk ksAt_self fun _ => by exact ⟨[0], ⟨rfl, by repeat' (first | exact trivial | exact rfl | apply And.intro), by decide, rfl, by repeat' (first | exact trivial | exact rfl | apply And.intro)⟩⟩) (fun ha0 => ?_)
        refine Ife.mk (fun _ => Need.mk ksAt_self fun _ => by exact ⟨[0], ⟨rfl, by repeat' (first | exact trivial | exact rfl | apply And.intro), by decide, rfl, by repeat' (first | exact trivial | exact rfl | apply And.intro)⟩⟩) (fun ha1 => ?_)
        refine Ife.mk (fun _ => Need.mk ksAt_self fun _ => by exact ⟨[0], ⟨rfl, by repeat' (first | exact trivial | exact rfl | apply And.intro), by decide, rfl, by repeat' (first | exact trivial | exact rfl | apply And.intro)⟩⟩) (fun hx2 => ?_)
        have ha0 : ¬ a < 0 := of_decide_eq_false (p := a < 0) ha0
        have ha1 : ¬ 8 ≤ a := of_decide_eq_false (p := (8 : Int) ≤ a) ha1
        have hx2 : ¬ x = 0 := of_decide_eq_false (p := x = 0) hx2
        refine Need.mk (by show (putF b).length + 0 ≤ 140737488355328; omega) fun _ => Need.mk (by show 0 ≤ a ∧ a < ((byteL (putF b) : Nat) : Int); rw [hbl]; omega) fun _ => Need.mk (by show a.toNat < byteL (putF b); rw [hbl]; omega) fun _ => Need.mk (by show 0 ≤ a ∧ a < ((byteL (putF b) : Nat) : Int); rw [hbl]; omega) fun _ => ?_
        clear hK1 hK2 o1 o2 o3 he
        generalize putF b = P at *
        generalize openF = O at *
        have hb0 := (P.getD a.toNat 0).toNat_lt
        obtain ⟨v0, v1, v2⟩ := xor_byte (byteN P a.toNat) x (by unfold byteN; omega) (by unfold byteN; omega) hx0 hx1 hx2
        obtain ⟨w1, w2⟩ := o4 a.toNat (UInt8.ofNat (bitsStd .xor .u8 (byteN P a.toNat) x).toNat) (by omega) (fun h => v2 (by
          have := congrArg UInt8.toNat h
          rw [UInt8.toNat_ofNat_of_lt' (by show _ < 256; omega)] at this
          show _ = (((P.getD a.toNat 0).toNat : Nat) : Int)
          omega))
        refine Need.mk ⟨by show a.toNat + 1 ≤ P.length; omega, by show 0 ≤ bitsStd .xor .u8 (byteN P a.toNat) x ∧ bitsStd .xor .u8 (byteN P a.toNat) x < 256; exact ⟨v0, v1⟩⟩ fun _ => ?_
        refine Need.mk ⟨ksAt_self, by show (P.set a.toNat (UInt8.ofNat (bitsStd .xor .u8 (byteN P a.toNat) x).toNat)).length ≤ 140737488350000; rw [List.length_set]; omega⟩ fun _ => ?_
        refine Ife.mk (fun _ => ?_) (fun hb => absurd (of_decide_eq_true (p := (O (P.set a.toNat (UInt8.ofNat (bitsStd .xor .u8 (byteN P a.toNat) x).toNat))).2 = 0) (by
          have h6 : (!decide ((O (P.set a.toNat (UInt8.ofNat (bitsStd .xor .u8 (byteN P a.toNat) x).toNat))).2 = 0)) = false := hb
          simpa using h6)) w1)
        refine Ife.mk (fun _ => by exact ⟨[0], ⟨rfl, by repeat' (first | exact trivial | exact rfl | apply And.intro), by decide, rfl, by repeat' (first | exact trivial | exact rfl | apply And.intro)⟩⟩) (fun h4 => ?_)
        have h4 : ¬ a < 4 := of_decide_eq_false (p := a < 4) h4
        exact ⟨[0], ⟨rfl, (show decide ((O (P.set a.toNat (UInt8.ofNat (bitsStd .xor .u8 (byteN P a.toNat) x).toNat))).2 = 5) = true from tt (w2 (by omega))), by decide, rfl, by repeat' (first | exact trivial | exact rfl | apply And.intro)⟩⟩
    · skip
      refine Ife.mk (fun _ => Need.mk ksAt_self fun _ => by exact ⟨[0], ⟨rfl, by repeat' (first | exact trivial | exact rfl | apply And.intro), by decide, rfl, by repeat' (first | exact trivial | exact rfl | apply And.intro)⟩⟩) (fun ha0 => ?_)
      refine Ife.mk (fun _ => Need.mk ksAt_self fun _ => by exact ⟨[0], ⟨rfl, by repeat' (first | exact trivial | exact rfl | apply And.intro), by decide, rfl, by repeat' (first | exact trivial | exact rfl | apply And.intro)⟩⟩) (fun ha1 => ?_)
      refine Ife.mk (fun _ => Need.mk ksAt_self fun _ => by exact ⟨[0], ⟨rfl, by repeat' (first | exact trivial | exact rfl | apply And.intro), by decide, rfl, by repeat' (first | exact trivial | exact rfl | apply And.intro)⟩⟩) (fun hx2 => ?_)
      have ha0 : ¬ a < 0 := of_decide_eq_false (p := a < 0) ha0
      have ha1 : ¬ 8 ≤ a := of_decide_eq_false (p := (8 : Int) ≤ a) ha1
      have hx2 : ¬ x = 0 := of_decide_eq_false (p := x = 0) hx2
      refine Need.mk (by show (putF b).length + 0 ≤ 140737488355328; omega) fun _ => Need.mk (by show 0 ≤ a ∧ a < ((byteL (putF b) : Nat) : Int); rw [hbl]; omega) fun _ => Need.mk (by show a.toNat < byteL (putF b); rw [hbl]; omega) fun _ => Need.mk (by show 0 ≤ a ∧ a < ((byteL (putF b) : Nat) : Int); rw [hbl]; omega) fun _ => ?_
      clear hK1 hK2 o1 o2 o3 he
      generalize putF b = P at *
      generalize openF = O at *
      have hb0 := (P.getD a.toNat 0).toNat_lt
      obtain ⟨v0, v1, v2⟩ := xor_byte (byteN P a.toNat) x (by unfold byteN; omega) (by unfold byteN; omega) hx0 hx1 hx2
      obtain ⟨w1, w2⟩ := o4 a.toNat (UInt8.ofNat (bitsStd .xor .u8 (byteN P a.toNat) x).toNat) (by omega) (fun h => v2 (by
        have := congrArg UInt8.toNat h
        rw [UInt8.toNat_ofNat_of_lt' (by show _ < 256; omega)] at this
        show _ = (((P.getD a.toNat 0).toNat : Nat) : Int)
        omega))
      refine Need.mk ⟨by show a.toNat + 1 ≤ P.length; omega, by show 0 ≤ bitsStd .xor .u8 (byteN P a.toNat) x ∧ bitsStd .xor .u8 (byteN P a.toNat) x < 256; exact ⟨v0, v1⟩⟩ fun _ => ?_
      refine Need.mk ⟨ksAt_self, by show (P.set a.toNat (UInt8.ofNat (bitsStd .xor .u8 (byteN P a.toNat) x).toNat)).length ≤ 140737488350000; rw [List.length_set]; omega⟩ fun _ => ?_
      refine Ife.mk (fun _ => ?_) (fun hb => absurd (of_decide_eq_true (p := (O (P.set a.toNat (UInt8.ofNat (bitsStd .xor .u8 (byteN P a.toNat) x).toNat))).2 = 0) (by
        have h6 : (!decide ((O (P.set a.toNat (UInt8.ofNat (bitsStd .xor .u8 (byteN P a.toNat) x).toNat))).2 = 0)) = false := hb
        simpa using h6)) w1)
      refine Ife.mk (fun _ => by exact ⟨[0], ⟨rfl, by repeat' (first | exact trivial | exact rfl | apply And.intro), by decide, rfl, by repeat' (first | exact trivial | exact rfl | apply And.intro)⟩⟩) (fun h4 => ?_)
      have h4 : ¬ a < 4 := of_decide_eq_false (p := a < 4) h4
      exact ⟨[0], ⟨rfl, (show decide ((O (P.set a.toNat (UInt8.ofNat (bitsStd .xor .u8 (byteN P a.toNat) x).toNat))).2 = 5) = true from tt (w2 (by omega))), by decide, rfl, by repeat' (first | exact trivial | exact rfl | apply And.intro)⟩⟩

end Go.Proofs.YtophhppklaofaaaDoor.Vx
namespace Go.Proofs.YtophhppklaofaaaDoor
open Go.RowKit
set_option linter.unusedVariables false
theorem frameTurnedWalk (w : World) (hk : ∀ i, i < 64 → w.cell? ⟨0, i, none⟩ = some (.int .u32 (Sha.kOf i))) (b : ByteArray) (_hb : b.size ≤ maxLen) (a : Int) (_ha : -9223372036854775808 ≤ a ∧ a ≤ 9223372036854775807) (x : Int) (hx : 0 ≤ x ∧ x ≤ 255) (c : Int) (_hc : -9223372036854775808 ≤ c ∧ c ≤ 9223372036854775807) (s : ByteArray) (_hs : s.size ≤ maxLen) :
    Calls Tryd.prog 7 #[.string b, .int .i64 a, .int .u8 x, .int .i64 c, .string s] w fun e w' => e = .returned (.bool true) ∧ Below w.heap.size w w' := by
  obtain ⟨k, rfl⟩ : ∃ l : List UInt8, b = ⟨l.toArray⟩ := ⟨b.data.toList, by cases b; simp⟩
  obtain ⟨l, rfl⟩ : ∃ l : List UInt8, s = ⟨l.toArray⟩ := ⟨s.data.toList, by cases s; simp⟩
  refine Calls.mono (Vx.turnedP.run [.c (.str k), .c (.int .i64 a), .c (.int .u8 x), .c (.int .i64 c), .c (.str l)] [.glob 0 1 64 (fun i => [.int .u32 (Sha.kOf i)])] _ _ _ rfl ⟨Vx.ksAt_self, hx.1, hx.2⟩ [⟨0, undef, 0⟩] w _ (Vx.relGlob hk) ⟨_, _, rfl, rfl, _, _, rfl, rfl, _, _, rfl, rfl, _, _, rfl, rfl, _, _, rfl, rfl, rfl⟩) fun e W' he => ?_
  obtain ⟨u, ρ', rfl, hu, hr⟩ := he
  obtain rfl : .bool true = u := Option.some.inj hu
  exact ⟨rfl, Vx.Rel.toBelow hr⟩
end Go.Proofs.YtophhppklaofaaaDoor
