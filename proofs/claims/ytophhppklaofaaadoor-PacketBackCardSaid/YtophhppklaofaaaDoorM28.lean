/- Packets: the sum by which they are kept, by the walker. -/
import Derived.Test.YtophhppklaofaaaDoorM20
import Derived.Test.YtophhppklaofaaaDoorM27
import Derived.Test.YtophhppklaofaaaDoorM18
import Derived.Test.YtophhppklaofaaaDoorM19
section
namespace Go.Proofs.YtophhppklaofaaaDoor.Vx
open Go.RowKit Sha
set_option linter.unusedVariables false
set_option linter.unusedSimpArgs false
def commitF (p : Pkt) : Nat → Int := if mayPkt p then sumI (be8 p.th ++ be8 p.ta ++ hashB (sumI p.data)) else fun _ => 0
def commitPre (gg sz n : Nat) (get : Nat → List CV) (p : Pkt) : Prop := KsAt gg sz n get ∧ p.fits
def tbP : Tbl where
  T :=
    (3, ⟨1, false, [.int .i64 (0)], .int .i64, 8⟩) ::
    (4, ⟨1, false, [.ff], .bool, 1⟩) ::
    (9, ⟨1, false, [.str []], .str, 16⟩) ::
    (5, ⟨1, false, [.int .u8 (0)], .int .u8, 1⟩) ::
    (89, ⟨1, false, [.int .u64 (0)], .int .u64, 8⟩) ::
    (44, ⟨1, false, [.val (.slice none 0 0)], .slice 5, 24⟩) ::
    (27, ⟨1, false, [.val (.slice none 0 0)], .slice 9, 24⟩) ::
    (129, ⟨8, true, [.int .u8 (0), .int .u8 (0), .int .u8 (0), .int .u8 (0), .int .u8 (0), .int .u8 (0), .int .u8 (0), .int .u8 (0)], .array 8 5, 8⟩) ::
    (36, ⟨1, false, [.int .i64 (0)], .int .i64, 8⟩) ::
    (54, ⟨2, true, [.str [], .int .i64 (0)], .struct [(0, (1, false)), (1, (1, false))], 24⟩) ::
    (56, ⟨8, true, [.str [], .int .i64 (0), .str [], .int .i64 (0), .int .i64 (0), .str [], .int .i64 (0), .int .i64 (0)], .struct [(0, (2, true)), (2, (2, true)), (4, (1, false)), (5, (1, false)), (6, (1, false)), (7, (1, false))], 88⟩) ::
    (24, ⟨32, true, [.int .u8 (0), .int .u8 (0), .int .u8 (0), .int .u8 (0), .int .u8 (0), .int .u8 (0), .int .u8 (0), .int .u8 (0), .int .u8 (0), .int .u8 (0), .int .u8 (0), .int .u8 (0), .int .u8 (0), .int .u8 (0), .int .u8 (0), .int .u8 (0), .int .u8 (0), .int .u8 (0), .int .u8 (0), .int .u8 (0), .int .u8 (0), .int .u8 (0), .int .u8 (0), .int .u8 (0), .int .u8 (0), .int .u8 (0), .int .u8 (0), .int .u8 (0), .int .u8 (0), .int .u8 (0), .int .u8 (0), .int .u8 (0)], .array 32 5, 32⟩) ::
    []
  F :=
    (56, [1, 0, 1, 0, 0, 1, 0, 0]) ::
    (24, [0, 0, 0, 0, 0, 0, 0, 0, 0, 0, 0, 0, 0, 0, 0, 0, 0, 0, 0, 0, 0, 0, 0, 0, 0, 0, 0, 0, 0, 0, 0, 0]) ::
    []
  sym := true

theorem tbP_ok : tbP.Ok Tryd.prog where
  T :=
    TblOk.cons (by kernel_rfl) <|
    TblOk.cons (by kernel_rfl) <|
    TblOk.cons (by kernel_rfl) <|
    TblOk.cons (by kernel_rfl) <|
    TblOk.cons (by kernel_rfl) <|
    TblOk.cons (by kernel_rfl) <|
    TblOk.cons (by kernel_rfl) <|
    TblOk.cons (by kernel_rfl) <|
    TblOk.cons (by kernel_rfl) <|
    TblOk.cons (by kernel_rfl) <|
    TblOk.cons (by kernel_rfl) <|
    TblOk.cons (by kernel_rfl) <|
    TblOk.nil _
  F :=
    FlatsOk.cons (FlatOk.of (D := .struct (Tryd.prog.fieldsOf 56)) 6 (by decide) (by kernel_rfl) (by kernel_rfl) rfl (by kernel_rfl)) <|
    FlatsOk.cons (FlatOk.of (D := .array 32 5) 6 (by decide) (by kernel_rfl) (by kernel_rfl) rfl (by kernel_rfl)) <|
    FlatsOk.nil _

def sCommit : SpecF
  | [.agg [.str sp, .int .i64 sc, .str dp, .int .i64 dc, .int .i64 sq, .str da, .int .i64 th, .int .i64 ta]], [.glob gg sz n get] => some (commitPre gg sz n get ⟨sp, sc, dp, dc, sq, da, th, ta⟩, .agg (hashC (commitF ⟨sp, sc, dp, dc, sq, da, th, ta⟩)), [.dead])
  | _, _ => none

set_option maxRecDepth 100000 in
set_option maxHeartbeats 4000000 in
theorem commitP : Fn Tryd.prog 41 [0] [] sCommit := by
  have hC : CtsOk Tryd.prog [(48, appPure sMayPk), (84, appPure sEight), (21, appPure sText), (17, appFn [0] [(9, 1)] sSum)] := CtsOk.cons (Pure.ct mayPkP) <| CtsOk.cons (Pure.ct leightP) <| CtsOk.cons (Pure.ct textP) <| CtsOk.cons (Fn.ct sumP) <| CtsOk.nil _
  refine Fn.of (E := tbP) [0, 2] 0 [(3, [(9999, true), (0, true), (1, true), (3, true), (4, true), (6, true), (7, true), (3002, false), (3005, false), (8, false), (9, false), (10, false), (11, false), (12, false), (13, false), (2999, false), (8, false), (5, false), (9, false), (10, false), (11, false), (12, false), (13, false), (2999, false), (8, false), (2, false), (5, false), (9, false), (10, false), (11, false), (12, false), (13, false), (2999, false)])] tbP_ok hC (by kernel_rfl) Tryd.func41 rfl rfl rfl (by kernel_rfl) (by kernel_rfl) 1 5 1 ?_ ?_
  · intro args h pre r h' hs
    unfold sCommit at hs
    split at hs
    · cases hs; exact ⟨rfl, rfl, Nat.le_of_ble_eq_true rfl⟩
    · cases hs
  · intro args h pre r h' hs hp
    unfold sCommit at hs
    split at hs
    rotate_left
    · cases hs
    rename_i sp sc dp dc sq da th ta gg sz n get
    cases hs
    obtain ⟨hK, hp⟩ := hp
    refine ⟨_, hK.same, ?_⟩
    clear hK
    unfold sSum sEight sText sMayPk
    generalize hg0 : (List.length : List UInt8 → Nat) = g0
    generalize ho0 : @sumPre = zo0, ho1 : @joinG = zo1, ho2 : @cutC = zo2, ho3 : @sumI = zo3, ho4 : @HashC = zo4, ho5 : @u8s = zo5, ho6 : @be8 = zo6, ho7 : @eightPre = zo7, ho8 : @mayPkt = zo8, ho9 : @commitF = zo9, ho10 : @commitPre = zo10, ho11 : @Pkt.fits = zo11
    generalize hA : Arith.std = A
    cbv
    subst hA hg0 ho0 ho1 ho2 ho3 ho4 ho5 ho6 ho7 ho8 ho9 ho10 ho11
    refine Need.mk hp fun _ => ?_
    refine Ife.mk (fun h => ?_) (fun h => ?_)
    · have h : mayPkt ⟨sp, sc, dp, dc, sq, da, th, ta⟩ = false := by
        have h6 : (!mayPkt ⟨sp, sc, dp, dc, sq, da, th, ta⟩) = true := h
        simpa using h6
      have e : commitF ⟨sp, sc, dp, dc, sq, da, th, ta⟩ = fun _ => 0 := by unfold commitF; rw [h]; rfl
      show ∃ σ, LeftF _ _ _ σ _ _ (.agg (hashC (commitF ⟨sp, sc, dp, dc, sq, da, th, ta⟩))) _
      rw [e]
      exact ⟨[0], ⟨rfl, by repeat' (first | exact trivial | exact rfl | apply And.intro), by decide, rfl, by repeat' (first | exact trivial | exact rfl | apply And.intro)⟩⟩
    have h : mayPkt ⟨sp, sc, dp, dc, sq, da, th, ta⟩ = true := by
      have h6 : (!mayPkt ⟨sp, sc, dp, dc, sq, da, th, ta⟩) = false := h
      simpa using h6
    obtain ⟨_, _, _, hd, ht, ha⟩ := mayPk_V h
    simp only at hd ht ha
    have l8 : ∀ n : Int, (be8 n).length = 8 := fun n => rfl
    have e : commitF ⟨sp, sc, dp, dc, sq, da, th, ta⟩ = sumI (be8 th ++ be8 ta ++ hashB (sumI da)) := by unfold commitF; rw [if_pos h]
    have j1 : joinG 1 (cutC 1 ([da].map CV.str) 0) = da := (strs_cut [da]).2.trans (by simp)
    have p1 := sumPre_cut [da] (by show ([da].flatten).length ≤ _; rw [List.flatten_cons, List.flatten_nil, List.append_nil]; omega) (by show 1 ≤ 1000; decide)
    have f2 : [be8 th, be8 ta, hashB (sumI da)].flatten = be8 th ++ be8 ta ++ hashB (sumI da) := by simp
    have j2 : joinG 3 (cutC 1 ([be8 th, be8 ta, hashB (sumI da)].map CV.str) 0) = be8 th ++ be8 ta ++ hashB (sumI da) := (strs_cut [be8 th, be8 ta, hashB (sumI da)]).2.trans f2
    have p2 := sumPre_cut [be8 th, be8 ta, hashB (sumI da)] (by rw [f2, List.length_append, List.length_append, l8, l8, hashB_len]; decide) (by show 3 ≤ 1000; decide)
    have q1 : eightPre th := ⟨by omega, by omega⟩
    have q2 : eightPre ta := ⟨by omega, by omega⟩
    have q3 : HashC (hashC (sumI (joinG 1 (cutC 1 ([da].map CV.str) 0)))) := ⟨_, rfl, sumI_range _⟩
    have xx : u8s (hashC (sumI (joinG 1 (cutC 1 ([da].map CV.str) 0)))) = hashB (sumI da) := by rw [j1, u8s_hash]
    rw [← xx] at p2 j2
    repeat' (first | refine Both.mk ?_ ?_ | refine Need.mk q1 fun _ => ?_ | refine Need.mk q2 fun _ => ?_ | refine Need.mk p1 fun _ => ?_ | refine Need.mk q3 fun _ => ?_ | refine Need.mk p2 fun _ => ?_)
    all_goals
      show ∃ σ, LeftF _ _ _ σ (.agg (hashC (sumI (joinG 3 (cutC 1 ([be8 th, be8 ta, u8s (hashC (sumI (joinG 1 (cutC 1 ([da].map CV.str) 0))))].map CV.str) 0))))) _ (.agg (hashC (commitF ⟨sp, sc, dp, dc, sq, da, th, ta⟩))) _
      rw [j2, xx, e]
      exact ⟨[0], ⟨rfl, by repeat' (first | exact trivial | exact rfl | apply And.intro), by decide, rfl, by repeat' (first | exact trivial | exact rfl | apply And.intro)⟩⟩

def sSamePk : List SV → Option (Prop × SV)
  | [.agg [.str sp, .int .i64 sc, .str dp, .int .i64 dc, .int .i64 sq, .str da, .int .i64 th, .int .i64 ta], .agg [.str sp', .int .i64 sc', .str dp', .int .i64 dc', .int .i64 sq', .str da', .int .i64 th', .int .i64 ta']] => some (True, .c (.bool (decide ((⟨sp, sc, dp, dc, sq, da, th, ta⟩ : Pkt) = ⟨sp', sc', dp', dc', sq', da', th', ta'⟩))))
  | _ => none

theorem samePk_eq {sp sp' dp dp' da da' : List UInt8} {sc sc' dc dc' sq sq' th th' ta ta' : Int} : (decide (sp = sp') && (decide (sc = sc') && (decide (dp = dp') && (decide (dc = dc') && (decide (sq = sq') && (decide (da = da') && (decide (th = th') && (decide (ta = ta') && true)))))))) = decide ((⟨sp, sc, dp, dc, sq, da, th, ta⟩ : Pkt) = ⟨sp', sc', dp', dc', sq', da', th', ta'⟩) := by
  rw [Bool.eq_iff_iff]
  simp only [Bool.and_eq_true, decide_eq_true_iff, Pkt.mk.injEq, and_true]
set_option maxRecDepth 100000 in
set_option maxHeartbeats 2000000 in
theorem samePkP : Pure Tryd.prog 51 sSamePk := by
  have hC : CtsOk Tryd.prog [] := CtsOk.nil _
  refine Pure.of (E := tbP) (C := []) [] 0 [] tbP_ok hC (by kernel_rfl) Tryd.func51 rfl rfl rfl (by kernel_rfl) (by kernel_rfl) ?_ ?_
  · intro args pre r h
    unfold sSamePk at h
    split at h
    · cases h; rfl
    · cases h
  · intro args pre r h hp
    unfold sSamePk at h
    split at h
    rotate_left
    · cases h
    rename_i sp sc dp dc sq da th ta sp' sc' dp' dc' sq' da' th' ta'
    cases h
    generalize hA : Arith.std = A
    cbv
    subst hA
    exact samePk_eq

def sFirst5 : List SV → Option (Prop × SV)
  | [] => some (True, .c .tt)
  | _ => none

set_option maxRecDepth 100000 in
set_option maxHeartbeats 2000000 in
theorem first5P : Pure Tryd.prog 39 sFirst5 := by
  have hC : CtsOk Tryd.prog [(48, appPure sMayPk), (49, appPure sOver), (51, appPure sSamePk)] := CtsOk.cons (Pure.ct mayPkP) <| CtsOk.cons (Pure.ct overP) <| CtsOk.cons (Pure.ct samePkP) <| CtsOk.nil _
  refine Pure.of (E := tbP) (C := [(48, appPure sMayPk), (49, appPure sOver), (51, appPure sSamePk)]) [] 0 [] tbP_ok hC (by kernel_rfl) Tryd.func39 rfl rfl rfl (by kernel_rfl) (by kernel_rfl) ?_ ?_
  · intro args pre r h
    unfold sFirst5 at h
    split at h
    · cases h; rfl
    · cases h
  · intro args pre r h hp
    unfold sFirst5 at h
    split at h
    rotate_left
    · cases h
    cases h
    unfold sMayPk sOver sSamePk
    generalize ho0 : @mayPkt = zo0, ho1 : @Pkt.fits = zo1, ho2 : @overPkt = zo2
    generalize hA : Arith.std = A
    cbv
    subst hA ho0 ho1 ho2
    refine Need.mk (show Pkt.fits (⟨[116], 1, [116], 1, 1, [], 5, 0⟩ : Pkt) from ⟨by decide, by decide, by decide⟩) fun _ => ?_
    refine Ife.mk (fun _ => ?_) (fun h => absurd ((show mayPkt (⟨[116], 1, [116], 1, 1, [], 5, 0⟩ : Pkt) = true by decide).symm.trans h) (by decide))
    refine Need.mk trivial fun _ => ?_
    refine Ife.mk (fun _ => ?_) (fun h => absurd ((show overPkt (⟨[116], 1, [116], 1, 1, [], 5, 0⟩ : Pkt) 5 0 = true by decide).symm.trans h) (by decide))
    refine Need.mk trivial fun _ => ?_
    refine Ife.mk (fun _ => ?_) (fun h => absurd ((show (!overPkt (⟨[116], 1, [116], 1, 1, [], 5, 0⟩ : Pkt) 4 9) = true by decide).symm.trans h) (by decide))
    refine Need.mk trivial fun _ => ?_
    first | trivial | exact rfl | (show decide ((⟨[116], 1, [116], 1, 1, [], 5, 0⟩ : Pkt) = (⟨[116], 1, [116], 1, 1, [], 5, 0⟩ : Pkt)) = true; exact decide_eq_true rfl)

end Go.Proofs.YtophhppklaofaaaDoor.Vx
end

section
/- The law PacketBack, by the walker. -/
namespace Go.Proofs.YtophhppklaofaaaDoor.Vx
open Go.RowKit Sha
set_option linter.unusedVariables false
set_option linter.unusedSimpArgs false
def pkBackPre (gg sz n : Nat) (get : Nat → List CV) (p : Pkt) (s : List UInt8) : Prop := KsAt gg sz n get ∧ p.fits ∧ s.length ≤ 9223372036854775807
theorem zeroPk_fits : zeroPkt.fits := ⟨by simp [zeroPkt], by simp [zeroPkt], by simp [zeroPkt]⟩
theorem decPk_fits {l : List UInt8} (h : l.length ≤ 140737488351232) : (decPk l).1.fits := by
  rw [decPk_eq]
  split
  · exact zeroPk_fits
  · split
    · exact rPk_fits h
    · exact zeroPk_fits
def sPkBack : SpecF
  | [.agg [.str sp, .int .i64 sc, .str dp, .int .i64 dc, .int .i64 sq, .str da, .int .i64 th, .int .i64 ta], .c (.str s)], [.glob gg sz n get] => some (pkBackPre gg sz n get ⟨sp, sc, dp, dc, sq, da, th, ta⟩ s, .c .tt, [.dead])
  | _, _ => none

set_option maxRecDepth 100000 in
set_option maxHeartbeats 16000000 in
theorem pkBackP : Fn Tryd.prog 11 [0] [] sPkBack := by
  have hC : CtsOk Tryd.prog [(39, appPure sFirst5), (40, appPure sLightPk), (41, appFn [0] [] sCommit), (44, appPure sEncPk), (46, appPure sDecPk), (48, appPure sMayPk), (51, appPure sSamePk)] := CtsOk.cons (Pure.ct first5P) <| CtsOk.cons (Pure.ct lightPkP) <| CtsOk.cons (Fn.ct commitP) <| CtsOk.cons (Pure.ct encPkP) <| CtsOk.cons (Pure.ct decPkP) <| CtsOk.cons (Pure.ct mayPkP) <| CtsOk.cons (Pure.ct samePkP) <| CtsOk.nil _
  refine Fn.of (E := tbP) [0] 0 [(11, [(0, true), (1, true), (2, true), (3, true), (4, true), (5, false), (6, true), (7, true), (8, true), (9, true), (10, true), (11, true), (12, true), (13, true), (15, true), (14, false), (16, false), (17, true), (18, true)])] tbP_ok hC (by kernel_rfl) Tryd.func11 rfl rfl rfl (by kernel_rfl) (by kernel_rfl) 1 5 1 ?_ ?_
  · intro args h pre r h' hs
    unfold sPkBack at hs
    split at hs
    · cases hs; exact ⟨rfl, rfl, Nat.le_of_ble_eq_true rfl⟩
    · cases hs
  · intro args h pre r h' hs hp
    unfold sPkBack at hs
    split at hs
    rotate_left
    · cases hs
    rename_i sp sc dp dc sq da th ta s gg sz n get
    cases hs
    obtain ⟨hK, hp, hs⟩ := hp
    refine ⟨_, hK.same, ?_⟩
    clear hK
    unfold sFirst5 sLightPk
    generalize hg0 : (List.length : List UInt8 → Nat) = g0
    generalize ho0 : @KsAt = zo0, ho1 : @cutC = zo1, ho2 : @mayPkt = zo2, ho3 : @commitF = zo3, ho4 : @commitPre = zo4, ho5 : @Pkt.fits = zo5, ho6 : @encPk = zo6, ho7 : @decPk = zo7, ho8 : @lightPkt = zo8, ho9 : @eqH = zo9, ho10 : @pkB = zo10
    generalize hs0 : @sEncPk = zs0, hs1 : @sMayPk = zs1, hs2 : @sDecPk = zs2, hs3 : @sSamePk = zs3, hs4 : @sCommit = zs4
    generalize hA : Arith.std = A
    cbv
    subst hA hg0 ho0 ho1 ho2 ho3 ho4 ho5 ho6 ho7 ho8 ho9 ho10 hs0 hs1 hs2 hs3 hs4
    unfold sEncPk
    generalize hg0 : (List.length : List UInt8 → Nat) = g0
    generalize ho0 : @KsAt = zo0, ho1 : @cutC = zo1, ho2 : @mayPkt = zo2, ho3 : @commitF = zo3, ho4 : @commitPre = zo4, ho5 : @Pkt.fits = zo5, ho6 : @encPk = zo6, ho7 : @decPk = zo7, ho8 : @lightPkt = zo8, ho9 : @eqH = zo9, ho10 : @pkB = zo10
    generalize hs0 : @sMayPk = zs0, hs1 : @sDecPk = zs1, hs2 : @sSamePk = zs2, hs3 : @sCommit = zs3
    generalize hA : Arith.std = A
    cbv
    subst hA hg0 ho0 ho1 ho2 ho3 ho4 ho5 ho6 ho7 ho8 ho9 ho10 hs0 hs1 hs2 hs3
    unfold sMayPk
    generalize hg0 : (List.length : List UInt8 → Nat) = g0
    generalize ho0 : @KsAt = zo0, ho1 : @cutC = zo1, ho2 : @mayPkt = zo2, ho3 : @commitF = zo3, ho4 : @commitPre = zo4, ho5 : @Pkt.fits = zo5, ho6 : @encPk = zo6, ho7 : @decPk = zo7, ho8 : @lightPkt = zo8, ho9 : @eqH = zo9, ho10 : @pkB = zo10
    generalize hs0 : @sDecPk = zs0, hs1 : @sSamePk = zs1, hs2 : @sCommit = zs2
    generalize hA : Arith.std = A
    cbv
    subst hA hg0 ho0 ho1 ho2 ho3 ho4 ho5 ho6 ho7 ho8 ho9 ho10 hs0 hs1 hs2
    unfold sDecPk
    generalize hg0 : (List.length : List UInt8 → Nat) = g0
    generalize ho0 : @KsAt = zo0, ho1 : @cutC = zo1, ho2 : @mayPkt = zo2, ho3 : @commitF = zo3, ho4 : @commitPre = zo4, ho5 : @Pkt.fits = zo5, ho6 : @encPk = zo6, ho7 : @decPk = zo7, ho8 : @lightPkt = zo8, ho9 : @eqH = zo9, ho10 : @pkB = zo10
    generalize hs0 : @sSamePk = zs0, hs1 : @sCommit = zs1
    generalize hA : Arith.std = A
    cbv
    subst hA hg0 ho0 ho1 ho2 ho3 ho4 ho5 ho6 ho7 ho8 ho9 ho10 hs0 hs1
    unfold sSamePk sCommit
    generalize hg0 : (List.length : List UInt8 → Nat) = g0
    generalize ho0 : @KsAt = zo0, ho1 : @cutC = zo1, ho2 : @mayPkt = zo2, ho3 : @commitF = zo3, ho4 : @commitPre = zo4, ho5 : @Pkt.fits = zo5, ho6 : @encPk = zo6, ho7 : @decPk = zo7, ho8 : @lightPkt = zo8, ho9 : @eqH = zo9, ho10 : @pkB = zo10
    generalize hA : Arith.std = A
    cbv
    subst hA hg0 ho0 ho1 ho2 ho3 ho4 ho5 ho6 ho7 ho8 ho9 ho10
    refine Need.mk trivial fun _ => Need.mk hp fun _ => ?_
    refine Ife.mk (fun _ => Need.mk trivial fun _ => ⟨[0], ⟨rfl, by repeat' (first | exact trivial | exact rfl | apply And.intro), by decide, rfl, by repeat' (first | exact trivial | exact rfl | apply And.intro)⟩⟩) (fun l1 => ?_)
    refine Ife.mk (fun _ => Need.mk trivial fun _ => ⟨[0], ⟨rfl, by repeat' (first | exact trivial | exact rfl | apply And.intro), by decide, rfl, by repeat' (first | exact trivial | exact rfl | apply And.intro)⟩⟩) (fun l3 => ?_)
    clear l1
    have l3 : ¬ (600 : Int) < (s.length : Int) := of_decide_eq_false (p := (600 : Int) < (s.length : Int)) l3
    have hs2 : s.length ≤ 140737488351232 := by omega
    by_cases hm : mayPkt ⟨sp, sc, dp, dc, sq, da, th, ta⟩ = true
    · have e2 : (encPk ⟨sp, sc, dp, dc, sq, da, th, ta⟩).2 = 0 := by rw [enc_may hm]
      have e1 : (encPk ⟨sp, sc, dp, dc, sq, da, th, ta⟩).1 = pkB ⟨sp, sc, dp, dc, sq, da, th, ta⟩ := by rw [enc_may hm]
      have lE : (encPk ⟨sp, sc, dp, dc, sq, da, th, ta⟩).1.length ≤ 400 := by
        have h1 := len_pk (p := ⟨sp, sc, dp, dc, sq, da, th, ta⟩) hm (l := []) (b := false) (n := 0) (by simp)
        rw [wPk_ok (mayPk_V hm)] at h1
        rw [e1]
        simpa using h1
      have d1 : decPk (encPk ⟨sp, sc, dp, dc, sq, da, th, ta⟩).1 = (⟨sp, sc, dp, dc, sq, da, th, ta⟩, 0) := by rw [e1]; exact dec_back hm
      have d2 : (decPk ((encPk ⟨sp, sc, dp, dc, sq, da, th, ta⟩).1 ++ [120])).2 = 3 := by rw [e1, dec_long hm (by simp)]
      have c1 : (!(decide ((encPk ⟨sp, sc, dp, dc, sq, da, th, ta⟩).2 = 0) == mayPkt ⟨sp, sc, dp, dc, sq, da, th, ta⟩)) = false := by rw [e2, hm]; rfl
      refine Need.mk hp fun _ => Need.mk hp fun _ => ?_
      refine Ife.mk (fun h => absurd (c1.symm.trans h) (by decide)) (fun _ => ?_)
      have c2 : (!decide ((encPk ⟨sp, sc, dp, dc, sq, da, th, ta⟩).2 = 0)) = false := by rw [e2]; rfl
      refine Ife.mk (fun h => absurd (c2.symm.trans h) (by decide)) (fun _ => ?_)
      refine Ife.mk (fun _ => ?_) (fun h => absurd ((decide_eq_true e2).symm.trans h) (by decide))
      refine Need.mk (show (encPk ⟨sp, sc, dp, dc, sq, da, th, ta⟩).1.length ≤ 140737488351232 by omega) fun _ => ?_
      refine Need.mk (by show ((encPk ⟨sp, sc, dp, dc, sq, da, th, ta⟩).1.length : Int) + (1 : Nat) ≤ 9223372036854775807; omega) fun _ => ?_
      refine Need.mk (by show ((encPk ⟨sp, sc, dp, dc, sq, da, th, ta⟩).1 ++ [120]).length ≤ 140737488351232; rw [List.length_append]; show (encPk ⟨sp, sc, dp, dc, sq, da, th, ta⟩).1.length + 1 ≤ _; omega) fun _ => ?_
      have c3 : (!decide ((decPk (encPk ⟨sp, sc, dp, dc, sq, da, th, ta⟩).1).2 = 0)) = false := by rw [d1]; rfl
      refine Ife.mk (fun h => absurd (c3.symm.trans h) (by decide)) (fun _ => ?_)
      refine Need.mk trivial fun _ => ?_
      have c4 : (!decide ((⟨sp, sc, dp, dc, sq, da, th, ta⟩ : Pkt) = (decPk (encPk ⟨sp, sc, dp, dc, sq, da, th, ta⟩).1).1)) = false := by rw [d1]; simp
      refine Ife.mk (fun h => absurd (c4.symm.trans h) (by decide)) (fun _ => ?_)
      have c5 : (!decide ((decPk ((encPk ⟨sp, sc, dp, dc, sq, da, th, ta⟩).1 ++ [120])).2 = 3)) = false := by rw [d2]; rfl
      refine Ife.mk (fun h => absurd (c5.symm.trans h) (by decide)) (fun _ => ?_)
      refine Need.mk ⟨ksAt_self, hp⟩ fun _ => ?_
      refine Need.mk ⟨ksAt_self, show (decPk (encPk ⟨sp, sc, dp, dc, sq, da, th, ta⟩).1).1.fits by rw [d1]; exact hp⟩ fun _ => ?_
      have c6 : (!eqH (commitF ⟨sp, sc, dp, dc, sq, da, th, ta⟩) (commitF (decPk (encPk ⟨sp, sc, dp, dc, sq, da, th, ta⟩).1).1)) = false := by rw [d1]; rw [eqH_self]; rfl
      refine Ife.mk (fun h => absurd (c6.symm.trans h) (by decide)) (fun _ => ?_)
      refine Need.mk hs2 fun _ => ?_
      refine Ife.mk (fun h => ?_) (fun h => ?_)
      · have h : (decPk s).2 ≠ 0 := by
          have h6 : (!decide ((decPk s).2 = 0)) = true := h
          simpa using h6
        have q := samePk_eq.trans (decide_eq_true (dec_zero h))
        exact ⟨[0], ⟨rfl, q, by decide, rfl, by repeat' (first | exact trivial | exact rfl | apply And.intro)⟩⟩
      have h : (decPk s).2 = 0 := by
        have h6 : (!decide ((decPk s).2 = 0)) = false := h
        simpa using h6
      have hf := decPk_fits hs2
      obtain ⟨k1, k2⟩ := dec_one h
      refine Need.mk hf fun _ => Need.mk hf fun _ => ?_
      refine Ife.mk (fun _ => ?_) (fun hb => absurd (k1.symm.trans hb) (by decide))
      refine Ife.mk (fun _ => ?_) (fun hb => absurd ((decide_eq_true (show (encPk (decPk s).1).1 = s by rw [enc_may k1]; exact k2)).symm.trans hb) (by decide))
      have q := decide_eq_true (show (encPk (decPk s).1).2 = 0 by rw [enc_may k1])
      exact ⟨[0], ⟨rfl, q, by decide, rfl, by repeat' (first | exact trivial | exact rfl | apply And.intro)⟩⟩
    · have hm : mayPkt ⟨sp, sc, dp, dc, sq, da, th, ta⟩ = false := by simpa using hm
      have e2 : (encPk ⟨sp, sc, dp, dc, sq, da, th, ta⟩).2 = 1 := by rw [enc_not hm]
      have e1 : (encPk ⟨sp, sc, dp, dc, sq, da, th, ta⟩).1 = [] := by rw [enc_not hm]
      have c1 : (!(decide ((encPk ⟨sp, sc, dp, dc, sq, da, th, ta⟩).2 = 0) == mayPkt ⟨sp, sc, dp, dc, sq, da, th, ta⟩)) = false := by rw [e2, hm]; rfl
      refine Need.mk hp fun _ => Need.mk hp fun _ => ?_
      refine Ife.mk (fun h => absurd (c1.symm.trans h) (by decide)) (fun _ => ?_)
      have c2 : (!decide ((encPk ⟨sp, sc, dp, dc, sq, da, th, ta⟩).2 = 0)) = true := by rw [e2]; rfl
      refine Ife.mk (fun _ => ?_) (fun h => absurd (c2.symm.trans h) (by decide))
      have c3 : (!decide ((encPk ⟨sp, sc, dp, dc, sq, da, th, ta⟩).2 = 1)) = false := by rw [e2]; rfl
      refine Ife.mk (fun h => absurd (c3.symm.trans h) (by decide)) (fun _ => ?_)
      have c4 : (!decide ((encPk ⟨sp, sc, dp, dc, sq, da, th, ta⟩).1 = [])) = false := by rw [e1]; rfl
      refine Ife.mk (fun h => absurd (c4.symm.trans h) (by decide)) (fun _ => ?_)
      have c5 : decide ((encPk ⟨sp, sc, dp, dc, sq, da, th, ta⟩).2 = 0) = false := by rw [e2]; rfl
      refine Ife.mk (fun h => absurd (c5.symm.trans h) (by decide)) (fun _ => ?_)
      refine Need.mk hs2 fun _ => ?_
      refine Ife.mk (fun h => ?_) (fun h => ?_)
      · have h : (decPk s).2 ≠ 0 := by
          have h6 : (!decide ((decPk s).2 = 0)) = true := h
          simpa using h6
        have q := samePk_eq.trans (decide_eq_true (dec_zero h))
        exact ⟨[0], ⟨rfl, q, by decide, rfl, by repeat' (first | exact trivial | exact rfl | apply And.intro)⟩⟩
      have h : (decPk s).2 = 0 := by
        have h6 : (!decide ((decPk s).2 = 0)) = false := h
        simpa using h6
      have hf := decPk_fits hs2
      obtain ⟨k1, k2⟩ := dec_one h
      refine Need.mk hf fun _ => Need.mk hf fun _ => ?_
      refine Ife.mk (fun _ => ?_) (fun hb => absurd (k1.symm.trans hb) (by decide))
      refine Ife.mk (fun _ => ?_) (fun hb => absurd ((decide_eq_true (show (encPk (decPk s).1).1 = s by rw [enc_may k1]; exact k2)).symm.trans hb) (by decide))
      have q := decide_eq_true (show (encPk (decPk s).1).2 = 0 by rw [enc_may k1])
      exact ⟨[0], ⟨rfl, q, by decide, rfl, by repeat' (first | exact trivial | exact rfl | apply And.intro)⟩⟩

end Go.Proofs.YtophhppklaofaaaDoor.Vx
namespace Go.Proofs.YtophhppklaofaaaDoor
open Go.RowKit
set_option linter.unusedVariables false
theorem packetBackWalk (w : World) (hk : ∀ i, i < 64 → w.cell? ⟨0, i, none⟩ = some (.int .u32 (Sha.kOf i))) (p : Pkt) (hp : p.fits) (s : ByteArray) (hs : s.size ≤ maxLen) :
    Calls Tryd.prog 11 #[.agg p.cells, .string s] w fun e w' => e = .returned (.bool true) ∧ Below w.heap.size w w' := by
  obtain ⟨l, rfl, hl⟩ := bytesOf s hs
  refine Calls.mono (Vx.pkBackP.run [.agg (Vx.pkC p), .c (.str l)] [.glob 0 1 64 (fun i => [.int .u32 (Sha.kOf i)])] _ _ _ rfl ⟨Vx.ksAt_self, hp, hl⟩ [⟨0, undef, 0⟩] w _ (Vx.relGlob hk) ⟨_, _, rfl, ⟨p.cells.toList, rfl, rfl⟩, _, _, rfl, rfl, rfl⟩) fun e W' he => ?_
  obtain ⟨u, ρ', rfl, hu, hr⟩ := he
  obtain rfl : .bool true = u := Option.some.inj hu
  exact ⟨rfl, Vx.Rel.toBelow hr⟩
end Go.Proofs.YtophhppklaofaaaDoor
end
