/- What blocks are encoded as, by the walker. -/
import Derived.Test.YtpapfokdhmpmjaaVBlk
import Derived.Test.YtpapfokdhmpmjaaVxRen
import Derived.Test.YtpapfokdhmpmjaaCodecEv
import Derived.Test.YtpapfokdhmpmjaaVOwnLaw
namespace Go.Proofs.Ytpapfokdhmpmjaa
open Go.RowKit
set_option linter.unusedVariables false
set_option linter.unusedSimpArgs false

def wEvs (xs : List Ev) (s : WS) : WS := xs.foldl (fun s e => wT (encEv e).1 s) s
def wHead (b : Bl) : WS := wN b.evs.length (wN b.time (wN b.height (wT b.chain ([], false))))
def encBl (b : Bl) : List UInt8 × Int := if mayBl b then (bytesW (wEvs b.evs (wHead b)).1 (wEvs b.evs (wHead b)).2, badW (wEvs b.evs (wHead b)).2) else ([], 1)

theorem wEvs_len (xs : List Ev) (h : xs.all mayEv = true) (s : WS) : (wEvs xs s).1.length ≤ s.1.length + 1020 * xs.length := by
  induction xs generalizing s with
  | nil => simp [wEvs]
  | cons x xs ih =>
    simp only [List.all_cons, Bool.and_eq_true] at h
    have h1 := ih h.2 (wT (encEv x).1 s)
    have h2 := text_le s.1 (encEv x).1 s.2
    have h3 : (encEv x).1.length ≤ 1000 := by rw [enc_may h.1]; exact evB_len h.1
    have h4 : (wEvs (x :: xs) s) = wEvs xs (wT (encEv x).1 s) := rfl
    have h5 : (wT (encEv x).1 s).1 = textW s.1 (encEv x).1 s.2 := rfl
    rw [h4, List.length_cons]
    rw [h5] at h1
    omega
theorem wHead_len (b : Bl) (h : b.chain.length ≤ 12) : (wHead b).1.length ≤ 100 := by
  have h1 := len_num (v := (b.evs.length : Int)) (b := (wN b.time (wN b.height (wT b.chain ([], false)))).2) (len_num (v := b.time) (b := (wN b.height (wT b.chain ([], false))).2) (len_num (v := b.height) (b := (wT b.chain ([], false)).2) (len_text (b := false) (show ([] : List UInt8).length ≤ 0 by simp) h)))
  exact Nat.le_trans h1 (by decide)
theorem mayBl_facts {b : Bl} (h : mayBl b = true) : nameOk b.chain = true ∧ (1 ≤ b.height ∧ b.height ≤ 1099511627776) ∧ (0 ≤ b.time ∧ b.time ≤ 1099511627776) ∧ b.evs.all mayEv = true ∧ b.evs.length ≤ 1073741824 := by
  unfold mayBl at h
  simp only [Bool.and_eq_true, decide_eq_true_eq, between] at h
  obtain ⟨⟨⟨⟨h1, h2⟩, h3⟩, h4⟩, h5⟩ := h
  exact ⟨h1, h2, h3, h4, h5⟩

def evsB (xs : List Ev) : List UInt8 := (xs.map fun e => textB (evB e)).flatten
theorem wEvs_ok (xs : List Ev) (h : xs.all mayEv = true) (l : List UInt8) : wEvs xs (l, false) = (l ++ evsB xs, false) := by
  induction xs generalizing l with
  | nil => simp [wEvs, evsB]
  | cons x xs ih =>
    simp only [List.all_cons, Bool.and_eq_true] at h
    have h3 := evB_len h.1
    have h4 : wEvs (x :: xs) (l, false) = wEvs xs (wT (encEv x).1 (l, false)) := rfl
    rw [h4, enc_may h.1, wT_ok (by dsimp only; omega), ih h.2]
    simp [evsB]
def blB (b : Bl) : List UInt8 := textB b.chain ++ (Leb.put b.height ++ (Leb.put b.time ++ (Leb.put b.evs.length ++ evsB b.evs)))
theorem enc_mayBl {b : Bl} (h : mayBl b = true) : encBl b = (blB b, 0) := by
  obtain ⟨m1, m2, m3, m4, m5⟩ := mayBl_facts h
  have hc := name_le m1
  unfold encBl
  rw [if_pos h]
  unfold wHead
  rw [wT_ok (by omega), wN_ok (by omega) (by omega), wN_ok (by omega) (by omega), wN_ok (by omega) (by omega), wEvs_ok _ m4]
  simp [bytesW, badW, blB]
theorem codecHead : Codec rHead (fun z : List UInt8 × Int => textB z.1 ++ Leb.put z.2) (fun z => (z.1.length : Int) ≤ 12 ∧ (1 ≤ z.2 ∧ z.2 ≤ 1099511627776)) :=
  (Codec.text 12 (by decide)).bind fun _ => Codec.num 1 1099511627776 (by decide) (by decide)
theorem peek_back {b : Bl} (h : mayBl b = true) (q : List UInt8) : peekBl (blB b ++ q) = (b.chain, b.height, 0) := by
  obtain ⟨m1, m2, m3, m4, m5⟩ := mayBl_facts h
  have hc := name_le m1
  have := codecHead.back [] (b.chain, b.height) (Leb.put b.time ++ (Leb.put b.evs.length ++ evsB b.evs) ++ q) ⟨by dsimp only; omega, m2⟩
  have e : ([] : List UInt8) ++ (textB b.chain ++ Leb.put b.height) ++ (Leb.put b.time ++ (Leb.put b.evs.length ++ evsB b.evs) ++ q) = blB b ++ q := by simp [blB]
  dsimp only at this
  rw [e] at this
  have e0 : ((([] : List UInt8).length : Nat) : Int) = 0 := rfl
  rw [e0] at this
  unfold peekBl
  rw [this]
  simp [m1]
theorem blB_len {b : Bl} (h : mayBl b = true) (hn : b.evs.length ≤ 60) : (blB b).length ≤ 100000 := by
  obtain ⟨m1, m2, m3, m4, m5⟩ := mayBl_facts h
  have h1 := wEvs_len b.evs m4 (wHead b)
  have h2 := wHead_len b (name_le m1)
  have h3 := enc_mayBl h
  unfold encBl at h3
  rw [if_pos h] at h3
  have h4 : (wEvs b.evs (wHead b)).2 = false := by
    have h5 := (Prod.mk.inj h3).2
    cases hq : (wEvs b.evs (wHead b)).2
    · rfl
    · rw [hq] at h5; exact absurd h5 (by decide)
  have h5 := (Prod.mk.inj h3).1
  rw [h4] at h5
  rw [← h5]
  show (wEvs b.evs (wHead b)).1.length ≤ 100000
  omega

namespace Vx
theorem evsOf_len (n : Nat) (get : Nat → List CV) : (evsOf n get).length = n := by simp [evsOf]
theorem evsOf_get (n : Nat) (get : Nat → List CV) (i : Nat) (h : i < n) : (evsOf n get)[i]? = some (evAt (get i)) := by simp [evsOf, h]
theorem evsOf_same (n : Nat) (get : Nat → List CV) : (evsOf n fun i => evC (evAt (get i))) = evsOf n get := rfl
theorem BlAt.same {c : List UInt8} {n : Nat} {get : Nat → List CV} (h : BlAt c n get) : BlAt c n fun i => evC (evAt (get i)) := ⟨h.c, fun i hi => ⟨evAt (get i), rfl, h.evs.fits i hi⟩, h.n⟩
structure LE (b : Bl) where
  i : Int
  l : List UInt8
  q : Bool
  h0 : 0 ≤ i
  h1 : i ≤ (b.evs.length : Int)
  e : wEvs (b.evs.take i.toNat) (wHead b) = (l, q)
def sEncBl : SpecR
  | [.agg [.str c, .int .i64 ht, .int .i64 tm, .row 0]], [(n, get)] => some (BlAt c n get, .tup [(some (.str (encBl ⟨c, ht, tm, evsOf n get⟩).1), []), (some (.int .i64 (encBl ⟨c, ht, tm, evsOf n get⟩).2), [])])
  | _, _ => none

set_option maxRecDepth 100000 in
set_option maxHeartbeats 1000000 in
theorem encBlP : Rds Try.prog 18 13 sEncBl := by
  have hC : CtsOk Try.prog [(17, appRds 13 sMayBl), (30, appMakesW 82 5), (31, appW 82 5 sNum), (34, appW 82 5 sText), (35, appW 82 5 sBytes), (12, appPure sEnc)] := CtsOk.cons (Rds.ct mayBlP) <| CtsOk.cons (MakesW.ct newWP) <| CtsOk.cons (MethW.ct numP) <| CtsOk.cons (MethW.ct textP) <| CtsOk.cons (MethW.ct bytesP) <| CtsOk.cons (Pure.ct encP) <| CtsOk.nil _
  refine Rds.of (E := tb) [] 0 [] tb_ok hC (by kernel_rfl) Try.func18 rfl rfl rfl (by kernel_rfl) (by kernel_rfl) 27 1 ?_ ?_
  · intro args vs pre r h
    unfold sEncBl at h
    split at h
    · cases h; exact ⟨rfl, rfl⟩
    · cases h
  · intro args vs pre r h hp
    unfold sEncBl at h
    split at h
    rotate_left
    · cases h
    rename_i c ht tm n get
    cases h
    refine ⟨_, hp.evs.same, ?_⟩
    unfold sMayBl sNum sText sBytes sEnc
    generalize hg0 : numW = g0
    generalize hg1 : numBad = g1
    generalize hg2 : fitNum = g2
    generalize hg3 : fitText = g3
    generalize hg4 : textW = g4
    generalize hg5 : bytesW = g5
    generalize hg6 : badW = g6
    generalize hg7 : encEv = g7
    generalize hg8 : Ev.fits = g8
    generalize hg9 : encBl = g9
    generalize hg10 : BlAt = g10
    generalize hg11 : mayBl = g11
    generalize hg12 : evsOf = g12
    generalize hg13 : evAt = g13
    generalize hg14 : (List.length : List UInt8 → Nat) = g14
    generalize hL : lft Try.prog _ = L
    generalize hA : Arith.std = A
    cbv
    subst hA hg0 hg1 hg2 hg3 hg4 hg5 hg6 hg7 hg8 hg9 hg10 hg11 hg12 hg13 hg14 hL
    refine Need.mk hp.same fun _ => ?_
    refine Ife.mk (fun h => ?_) (fun hm => ?_)
    · have h : mayBl ⟨c, ht, tm, evsOf n get⟩ = false := by simpa [Arith.std, evsOf_same] using h
      simp [encBl, h]
    have hm : mayBl ⟨c, ht, tm, evsOf n get⟩ = true := by simpa [Arith.std, evsOf_same] using hm
    obtain ⟨m1, m2, m3, m4, m5⟩ := mayBl_facts hm
    dsimp only at m1 m2 m3 m4 m5
    rw [evsOf_len] at m5
    have hc := name_le m1
    have i1 : isI64 ht := by unfold isI64; omega
    have i2 : isI64 tm := by unfold isI64; omega
    have i3 : isI64 (n : Int) := by unfold isI64; omega
    have z : ([] : List UInt8).length ≤ 0 := by simp
    refine Need.mk trivial fun _ => ?_
    refine Need.mk (fitText_of z hc (by decide)) fun _ => ?_
    refine Need.mk (fitNum_of (len_text z hc) i1 (by decide)) fun _ => ?_
    refine Need.mk (fitNum_of (len_num (len_text z hc)) i2 (by decide)) fun _ => ?_
    refine Need.mk (fitNum_of (len_num (len_num (len_text z hc))) i3 (by decide)) fun _ => ?_
    have hlen := evsOf_len n get
    show Runs Try.prog 1 (.loop _) _ _
    generalize hB : (⟨c, ht, tm, evsOf n get⟩ : Bl) = B
    have hBe : B.evs = evsOf n get := by rw [← hB]
    have hBm : mayBl B = true := by rw [← hB]; exact hm
    refine loop_ruleR (N := env (lft Try.prog 1) 0 .std tb [(17, appRds 13 sMayBl), (30, appMakesW 82 5), (31, appW 82 5 sNum), (34, appW 82 5 sText), (35, appW 82 5 sBytes), (12, appPure sEnc)] []) rfl tb_ok hC (fun c st K _ h => h) (by kernel_rfl) [] (X := LE B)
      (S := fun x => ⟨[.any, .c (.ptr 1 0), .any, .any, .c (.ptr 2 0)] ++ List.replicate 26 .any ++ [.c (.row 0), .c (.int .i64 n), .c (.int .i64 x.i)] ++ List.replicate 16 .any, [.elems 27 13 n (fun i => evC (evAt (get i))), .cells 40 [.str c, .int .i64 ht, .int .i64 tm, .row 0], .cells 82 [.row 3, .bool x.q], .bytes 5 x.l]⟩) (μ := fun x => n - x.i.toNat) ⟨0, (wHead B).1, (wHead B).2, by omega, by omega, rfl⟩ (by kernel_rfl) [0, 1, 2, 7] ?_ ?_
    · subst hB
      refine ⟨rfl, by decide, ?_, ?_⟩
      · repeat' (first | exact trivial | exact rfl | apply And.intro)
      · refine ⟨⟨rfl, rfl, rfl, rfl⟩, ⟨rfl, rfl, ?_⟩, ⟨rfl, rfl, ?_⟩, ⟨rfl, ?_⟩, trivial⟩
        · repeat' (first | exact trivial | exact rfl | apply And.intro)
        · refine ⟨rfl, ?_, trivial⟩
          show _ = (wHead ⟨c, ht, tm, evsOf n get⟩).2
          simp only [wHead, evsOf_len]
          rfl
        · simp only [wHead, evsOf_len]
          rfl
    rintro ⟨i, l, q, hi0, hin, he⟩
    unfold sMayBl sNum sText sBytes sEnc
    generalize hg0 : numW = g0
    generalize hg1 : numBad = g1
    generalize hg2 : fitNum = g2
    generalize hg3 : fitText = g3
    generalize hg4 : textW = g4
    generalize hg5 : bytesW = g5
    generalize hg6 : badW = g6
    generalize hg7 : encEv = g7
    generalize hg8 : Ev.fits = g8
    generalize hg9 : encBl = g9
    generalize hg10 : BlAt = g10
    generalize hg11 : mayBl = g11
    generalize hg12 : evsOf = g12
    generalize hg13 : evAt = g13
    generalize hg14 : (List.length : List UInt8 → Nat) = g14
    generalize hL : lft Try.prog _ = L
    generalize hA : Arith.std = A
    cbv
    subst hA hg0 hg1 hg2 hg3 hg4 hg5 hg6 hg7 hg8 hg9 hg10 hg11 hg12 hg13 hg14 hL
    replace hin : i ≤ (B.evs.length : Int) := hin
    have hBl : B.evs.length = n := by rw [hBe, hlen]
    have hall : B.evs.all mayEv = true := (mayBl_facts hBm).2.2.2.1
    have hch : B.chain.length ≤ 12 := name_le (mayBl_facts hBm).1
    have hll : l.length ≤ 100 + 1020 * i.toNat := by
      have h1 := wEvs_len (B.evs.take i.toNat) (List.all_eq_true.2 fun x hx => List.all_eq_true.1 hall x (List.mem_of_mem_take hx)) (wHead B)
      rw [he, List.length_take] at h1
      have := wHead_len B hch
      dsimp only at h1
      omega
    refine Ife.mk (fun h => ?_) (fun h => ?_)
    · have hlt : i < (n : Int) := of_decide_eq_true (p := i < (n : Int)) h
      have hk : i.toNat < n := by omega
      have hf := hp.evs.fits i.toNat hk
      have hmx : mayEv (evAt (get i.toNat)) = true := by rw [hBe] at hall; exact all_evs.1 hall i.toNat hk
      have hel : (encEv (evAt (get i.toNat))).1.length ≤ 1000 := by rw [enc_may hmx]; exact evB_len hmx
      refine Need.mk (show 0 ≤ i ∧ i < (n : Int) from ⟨hi0, hlt⟩) fun _ => ?_
      refine Need.mk (show i.toNat < n from hk) fun _ => ?_
      refine Need.mk hf fun _ => ?_
      refine Need.mk (show fitText l (encEv (evAt (get i.toNat))).1 from by unfold fitText; omega) fun _ => ?_
      refine Need.mk (show -9223372036854775808 ≤ i + 1 ∧ i + 1 ≤ 9223372036854775807 by omega) fun _ => ?_
      refine ⟨⟨i + 1, textW l (encEv (evAt (get i.toNat))).1 q, numBad (encEv (evAt (get i.toNat))).1.length q, by omega, by omega, ?_⟩, [0, 1, 2, 5], by show n - (i + 1).toNat < n - i.toNat; omega, ?_⟩
      · have e1 : (i + 1).toNat = i.toNat + 1 := by omega
        have e2 : B.evs[i.toNat]? = some (evAt (get i.toNat)) := by rw [hBe]; exact evsOf_get n get i.toNat hk
        rw [e1, List.take_add_one, e2]
        unfold wEvs at he ⊢
        rw [List.foldl_append, he]
        rfl
      · refine ⟨rfl, by decide, ?_, ?_⟩
        · repeat' (first | exact trivial | exact rfl | apply And.intro)
        · refine ⟨⟨rfl, rfl, rfl, rfl⟩, ⟨rfl, rfl, ?_⟩, ⟨rfl, rfl, ?_⟩, ⟨rfl, rfl⟩, trivial⟩
          · repeat' (first | exact trivial | exact rfl | apply And.intro)
          · exact ⟨rfl, rfl, trivial⟩
    · have hnlt : ¬ i < (n : Int) := of_decide_eq_false (p := i < (n : Int)) h
      have ei : i.toNat = B.evs.length := by omega
      rw [ei, List.take_length] at he
      have hE : encBl B = (bytesW l q, badW q) := by
        unfold encBl
        rw [if_pos hBm, he]
      exact Need.mk trivial fun _ => by rw [hE]; exact ⟨rfl, rfl, trivial⟩

set_option maxRecDepth 100000 in
set_option maxHeartbeats 400000 in
theorem firstBP : Pure Try.prog 15 sTrue := by
  refine Pure.of (E := tb) (C := [(18, appRds 13 sEncBl)]) [] 0 [] tb_ok (CtsOk.cons (Rds.ct encBlP) <| CtsOk.nil _) (by kernel_rfl) Try.func15 rfl rfl rfl (by kernel_rfl) (by kernel_rfl) ?_ ?_
  · intro args pre r h
    unfold sTrue at h
    split at h
    · cases h; first | rfl | exact ⟨rfl, rfl⟩
    · cases h
  · intro args pre r h hp
    unfold sTrue at h
    split at h
    rotate_left
    · cases h
    cases h
    unfold sEncBl
    generalize hg0 : encBl = g0
    generalize hg1 : BlAt = g1
    generalize hg2 : evsOf = g2
    generalize hA : Arith.std = A
    cbv
    subst hA hg0 hg1 hg2
    refine Need.mk ⟨by simp, fun i hi => absurd hi (by simp), by simp⟩ fun _ => ?_
    have e : (evsOf 0 fun _ => []) = [] := rfl
    rw [e, show encBl ⟨[97], 1, 2, []⟩ = ([1, 97, 1, 2, 0], 0) from by decide +kernel]
    simp [Ife_iff, Arith.std]

def sPeekLaw : SpecR
  | [.agg [.str c, .int .i64 ht, .int .i64 tm, .row 0], .c (.str s)], [(n, get)] => some ((BlAt c n get ∧ s.length ≤ 9223372036854775807), .c (.bool true))
  | _, _ => none

set_option maxRecDepth 100000 in
set_option maxHeartbeats 1000000 in
theorem peekLawP : Rds Try.prog 5 13 sPeekLaw := by
  have hC : CtsOk Try.prog [(15, appPure sTrue), (16, appRds 13 sLight), (17, appRds 13 sMayBl), (18, appRds 13 sEncBl), (19, appPure sPeek)] := CtsOk.cons (Pure.ct firstBP) <| CtsOk.cons (Rds.ct lightBlP) <| CtsOk.cons (Rds.ct mayBlP) <| CtsOk.cons (Rds.ct encBlP) <| CtsOk.cons (Pure.ct peekP) <| CtsOk.nil _
  refine Rds.of (E := tb) [] 0 [] tb_ok hC (by kernel_rfl) Try.func5 rfl rfl rfl (by kernel_rfl) (by kernel_rfl) 27 1 ?_ ?_
  · intro args vs pre r h
    unfold sPeekLaw at h
    split at h
    · cases h; exact ⟨rfl, rfl⟩
    · cases h
  · intro args vs pre r h hp
    unfold sPeekLaw at h
    split at h
    rotate_left
    · cases h
    rename_i c ht tm s n get
    cases h
    obtain ⟨hp1, hp2⟩ := hp
    refine ⟨_, SameV.refl _, ?_⟩
    rw [← exec_assoc, ← exec_assoc]
    refine exec_cut fun K hn hr _ => ?_
    replace hn := Lib.hid hn
    replace hr := Lib.hid hr
    unfold sTrue sLight sMayBl sEncBl sPeek
    generalize hg0 : lightBl = g0
    generalize hg1 : encBl = g1
    generalize hg2 : BlAt = g2
    generalize hg3 : mayBl = g3
    generalize hg4 : evsOf = g4
    generalize hg5 : peekBl = g5
    generalize hg6 : (List.length : List UInt8 → Nat) = g6
    generalize hA : Arith.std = A
    cbv
    subst hA hg0 hg1 hg2 hg3 hg4 hg5 hg6
    refine Need.mk trivial fun _ => ?_
    refine Need.mk hp1 fun _ => ?_
    refine Ife.mk (fun _ => Need.mk trivial fun _ => hr.out _ (by rfl)) (fun hli => ?_)
    refine Ife.mk (fun _ => Need.mk trivial fun _ => hr.out _ (by rfl)) (fun hs => ?_)
    refine Need.mk hp1 fun _ => ?_
    refine Ife.mk (fun _ => Need.mk trivial fun _ => hr.out _ (by rfl)) (fun hm => ?_)
    have hs : s.length ≤ 200 := by
      have h : ¬ (200 : Int) < s.length := of_decide_eq_false (p := (200 : Int) < s.length) hs
      exact Int.ofNat_le.mp (Int.not_lt.mp h)
    have hli := of_not_ff hli
    have hm := of_not_ff hm
    refine hn.out _ ?_
    clear hn hr
    unfold sTrue sLight sMayBl sEncBl sPeek
    generalize hg0 : lightBl = g0
    generalize hg1 : encBl = g1
    generalize hg2 : BlAt = g2
    generalize hg3 : mayBl = g3
    generalize hg4 : evsOf = g4
    generalize hg5 : peekBl = g5
    generalize hg6 : (List.length : List UInt8 → Nat) = g6
    generalize hA : Arith.std = A
    cbv
    subst hA hg0 hg1 hg2 hg3 hg4 hg5 hg6
    have hE := enc_mayBl hm
    have h60 : n ≤ 60 := by
      unfold lightBl lightEvs at hli
      simp only [Bool.and_eq_true, decide_eq_true_eq] at hli
      exact hli.2.1
    have hl := blB_len hm (by dsimp only; rw [evsOf_len]; exact h60)
    have p1 := peek_back hm []
    rw [List.append_nil] at p1
    have p2 := peek_back hm s
    rw [hE]
    refine Need.mk hp1 fun _ => ?_
    generalize blB ⟨c, ht, tm, evsOf n get⟩ = E at hl p1 p2 ⊢
    refine Need.mk (show E.length ≤ _ by omega) fun _ => ?_
    refine Need.mk (show (E.length : Int) + s.length ≤ 9223372036854775807 by omega) fun _ => ?_
    refine Need.mk (show (E ++ s).length ≤ 140737488351232 by simp; omega) fun _ => ?_
    simp [Arith.std, p1, p2, Ife_iff]

end Vx
end Go.Proofs.Ytpapfokdhmpmjaa
