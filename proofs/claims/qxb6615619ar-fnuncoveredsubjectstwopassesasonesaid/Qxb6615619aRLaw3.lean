/-
  Seat b6615619a. FnUncoveredSubjectsTwoPassesAsOne: the walk.
-/
import Derived.Test.Qxb6615619aRL
import Derived.Test.Qxb6615619aRM
namespace Go.Proofs.Qxb6615619aR
open Go.RowKit
attribute [local go_sem ↓] Go.wp_at_zero Go.wp_at_succ

/-- One pass over fresh copies: what is kept, zeros behind it. -/
theorem uncA (hb c : Nat) (gs : List Gr) (su sg : Option Addr) (ub gb hiU hiG nu ng : Nat) (eu eg : List El) (w : World)
    (hG : GrAt w hb 0 gs) (lb : hb < w.heap.size) (hlen : gs.length ≤ 3000000) (CU : Cp w su ub hiU eu []) (CV : Cp w sg gb hiG eg []) (hnu : eu.length = nu) (hng : eg.length = ng) (lu : nu ≤ 1048576) (lg : ng ≤ 1048576)
    (du : su.isSome = true → hb ≠ ub) (dg : sg.isSome = true → hb ≠ gb) (h1 : hiU ≤ gb) (h2 : ub ≤ gb) (h3 : su.isSome = true → ub < gb) :
    Calls Try.prog 9 #[.slice su nu nu, .slice sg ng ng, .slice (some ⟨hb, 0, none⟩) gs.length c] w fun e w' => e = .returned (.tuple #[.slice su (filU gs eu).length nu, .slice sg (filG gs eg).length ng]) ∧
      Cp w' su ub hiU (filU gs eu) (List.replicate (nu - (filU gs eu).length) eZ) ∧ Cp w' sg gb hiG (filG gs eg) (List.replicate (ng - (filG gs eg).length) eZ) ∧ Kp2 su ub sg gb w w' := by
  refine (uncC hb c gs su sg ub gb hiU hiG nu ng nu ng eu eg [] [] w hG lb hlen CU CV hnu hng (by simp; omega) (by simp; omega) (by omega) (by omega) (by simp) (by simp) du dg h1 h2 h3).mono ?_
  rintro e w' ⟨rfl, k1, k2, k3⟩
  rw [List.append_nil, hnu] at k1
  rw [List.append_nil, hng] at k2
  exact ⟨rfl, k1, k2, k3⟩

/-- A second pass over what the first kept. -/
theorem uncB (hb c : Nat) (gs : List Gr) (su sg : Option Addr) (ub gb hiU hiG nu ng : Nat) (eu eg : List El) (w : World)
    (hG : GrAt w hb 0 gs) (lb : hb < w.heap.size) (hlen : gs.length ≤ 3000000) (CU : Cp w su ub hiU eu (List.replicate (nu - eu.length) eZ)) (CV : Cp w sg gb hiG eg (List.replicate (ng - eg.length) eZ)) (hnu : eu.length ≤ nu) (hng : eg.length ≤ ng) (lu : nu ≤ 1048576) (lg : ng ≤ 1048576)
    (du : su.isSome = true → hb ≠ ub) (dg : sg.isSome = true → hb ≠ gb) (h1 : hiU ≤ gb) (h2 : ub ≤ gb) (h3 : su.isSome = true → ub < gb) :
    Calls Try.prog 9 #[.slice su eu.length nu, .slice sg eg.length ng, .slice (some ⟨hb, 0, none⟩) gs.length c] w fun e w' => e = .returned (.tuple #[.slice su (filU gs eu).length nu, .slice sg (filG gs eg).length ng]) ∧
      Sl w' su (filU gs eu) ∧ Sl w' sg (filG gs eg) ∧ Kp2 su ub sg gb w w' := by
  refine (uncC hb c gs su sg ub gb hiU hiG eu.length eg.length nu ng eu eg _ _ w hG lb hlen CU CV rfl rfl (by simp; omega) (by simp; omega) (by omega) (by omega) (by simp; omega) (by simp; omega) du dg h1 h2 h3).mono ?_
  rintro e w' ⟨rfl, k1, k2, k3⟩
  exact ⟨rfl, k1.sl, k2.sl, k3⟩

theorem filU_match2 {ds us : List El} {g1 g2 : List Gr} (h : ds.map con = us.map con) : (filU (g1 ++ g2) ds).map con = (us.filter (qU g1 g2)).map con := by
  have e : qU g1 g2 = fun e => !pU (g1 ++ g2) e := funext fun e => qU_eq g1 g2 e
  rw [e]
  exact filter_con _ (fun a b hab => by rw [pU_con hab]) ds us h
theorem filG_match2 {ds us : List El} {g1 g2 : List Gr} (h : ds.map con = us.map con) : (filG (g1 ++ g2) ds).map con = (us.filter (qG g1 g2)).map con := by
  have e : qG g1 g2 = fun e => !pG (g1 ++ g2) e := funext fun e => qG_eq g1 g2 e
  rw [e]
  exact filter_con _ (fun a b hab => by rw [pG_con hab]) ds us h
theorem filU_two {g1 g2 : List Gr} (l : List El) : filU g2 (filU g1 l) = filU (g1 ++ g2) l := by
  unfold filU
  rw [List.filter_filter]
  congr 1
  funext e
  rw [pU_eq, pU_eq, pU_eq, List.any_append]
  cases g1.any _ <;> cases g2.any _ <;> rfl
theorem filG_two {g1 g2 : List Gr} (l : List El) : filG g2 (filG g1 l) = filG (g1 ++ g2) l := by
  unfold filG
  rw [List.filter_filter]
  congr 1
  funext e
  rw [pG_eq, pG_eq, pG_eq, List.any_append]
  cases g1.any _ <;> cases g2.any _ <;> rfl
theorem filU_same {d1 d3 us : List El} {g1 g2 : List Gr} (h1 : d1.map con = us.map con) (h3 : d3.map con = us.map con) : (filU (g1 ++ g2) d1).map con = (filU g2 (filU g1 d3)).map con := by
  rw [filU_two, filU_con h1, filU_con h3]
theorem filG_same {d1 d3 us : List El} {g1 g2 : List Gr} (h1 : d1.map con = us.map con) (h3 : d3.map con = us.map con) : (filG (g1 ++ g2) d1).map con = (filG g2 (filG g1 d3)).map con := by
  rw [filG_two, filG_con h1, filG_con h3]
theorem filU_le {ds us : List El} (hs : List Gr) (h : ds.map con = us.map con) : (filU hs ds).length ≤ us.length := by
  have := List.length_filter_le (fun e => !pU hs e) ds
  have h2 := len_of_con h
  unfold filU
  omega
theorem filG_le {ds us : List El} (hs : List Gr) (h : ds.map con = us.map con) : (filG hs ds).length ≤ us.length := by
  have := List.length_filter_le (fun e => !pG hs e) ds
  have h2 := len_of_con h
  unfold filG
  omega

set_option maxHeartbeats 2000000 in
theorem law3 (su sg sh sk : Option Addr) (cu cg ch ck : Nat) (us gs : List El) (hs ks : List Gr) (w : World) (hU : Sl w su us) (hV : Sl w sg gs) (hH : Gl w sh hs) (hK : Gl w sk ks) (lu : us.length ≤ maxLen) (lg : gs.length ≤ maxLen) (lh : hs.length ≤ maxLen) (lk : ks.length ≤ maxLen)
    (nu : su = none → us = [] ∧ cu = 0) (ng : sg = none → gs = [] ∧ cg = 0) :
    Calls Try.prog 3 #[.slice su us.length cu, .slice sg gs.length cg, .slice sh hs.length ch, .slice sk ks.length ck] w fun e w' => e = .returned (.bool true) ∧ Below w.heap.size w w' := by
  have HZ := hid (zzB5 su sg sh sk cu cg ch ck us gs hs ks w hU hV hH hK lu lg lh lk)
  unfold maxLen at lu lg lh lk
  have HU := hid hU
  have HV := hid hV
  have HH := hid hH
  have HK := hid hK
  have NU := hid nu
  have NG := hid ng
  clear hU hV hH hK nu ng
  go_enter Try.func3, Try.ntmps3
  go_wp2_with fail
  refine HZ.out.mono ?_
  rintro e w1 ⟨⟨b, rfl, hb⟩, hw⟩
  obtain rfl := hw.symm
  cases b with
  | false =>
    go_wp2
    go_ret
    exact ⟨rfl, Below.refl _ _⟩
  | true =>
    obtain ⟨hSU, hSG, hSH, hSK⟩ := hb rfl
    have hl1 := hSU.len
    have hl2 := hSG.len
    have hl3 := hSH.len
    have hl4 := hSK.len
    have SU := hid hSU
    have SG := hid hSG
    have SH := hid hSH
    have SK := hid hSK
    clear hb hSU hSG hSH hSK HZ hw
    go_wp2_with fail
    refine (sizeSubs 0 su cu us w HU.out (by omega) (by omega) SU.out).mono ?_
    rintro e w2 ⟨⟨r1, r10, r11, rfl⟩, q1, hw⟩
    subst hw
    go_wp2_with fail
    refine (sizeSubs r1 sg cg gs (w.drewN q1) (HV.out.draw q1) r10 r11 SG.out).mono ?_
    rintro e w2 ⟨⟨r2, r20, r21, rfl⟩, q2, hw⟩
    rw [World.drewN_drewN] at hw
    subst hw
    go_wp2_with fail
    refine (sizeGr r2 sh ch hs (w.drewN (q1 + q2)) (HH.out.draw _) r20 r21 hl3 SH.out.each).mono ?_
    rintro e w2 ⟨⟨r3, r30, r31, rfl⟩, q3, hw⟩
    rw [World.drewN_drewN] at hw
    subst hw
    go_wp2_with fail
    refine (sizeGr r3 sk ck ks (w.drewN (q1 + q2 + q3)) (HK.out.draw _) r30 r31 hl4 SK.out.each).mono ?_
    rintro e w2 ⟨⟨r4, r40, r41, rfl⟩, q4, hw⟩
    rw [World.drewN_drewN] at hw
    have hbw : Below w.heap.size w w2 := by rw [hw]; exact ⟨rfl, rfl, rfl, Nat.le_refl _, fun _ _ => rfl⟩
    have HU2 : Hid (Sl w2 su us) := by rw [hw]; exact HU.out.draw _
    have HV2 : Hid (Sl w2 sg gs) := by rw [hw]; exact HV.out.draw _
    have HH2 : Hid (Gl w2 sh hs) := by rw [hw]; exact HH.out.draw _
    have HK2 : Hid (Gl w2 sk ks) := by rw [hw]; exact HK.out.draw _
    have HZ2 : Hid (w2.heap.size = w.heap.size) := by rw [hw]; exact rfl
    have HBW := hid hbw
    clear hw hbw HU HV HH HK
    by_cases hbig : (1048576 : Int) < r4
    · go_wp2
      go_ret
      exact ⟨rfl, HBW.out⟩
    · go_wp2_with fail
      refine (toSubsC su cu us w2 HU2.out SU.out NU.out).mono ?_
      rintro e w3 ⟨⟨d1, s1, rfl, i1, e1, C1⟩, hb3⟩
      have CC1 := hid C1
      have E1 := hid e1
      have I1 := hid i1
      have B3 := hid hb3
      clear C1 e1 hb3 i1
      go_wp2_with fail
      refine (toSubsC sg cg gs w3 (HV2.out.below B3.out (Nat.le_refl _)) SG.out NG.out).mono ?_
      rintro e w4 ⟨⟨d2, s2, rfl, i2, e2, C2⟩, hb4⟩
      have CC2 := hid C2
      have E2 := hid e2
      have I2 := hid i2
      have B4 := hid hb4
      have B24 : Hid (Below w2.heap.size w2 w4) := hid (B3.out.trans (hb4.mono B3.out.size))
      clear C2 e2 hb4 i2
      go_wp2_with fail
      refine (toGr sh sk ch ck hs ks w4 (grs_below HH2.out B24.out) (grs_below HK2.out B24.out) hl3 hl4).mono ?_
      rintro e w5 ⟨rfl, hg5, hb5, hlt5⟩
      obtain ⟨hk, hhk⟩ : ∃ l, hs ++ ks = l := ⟨_, rfl⟩
      obtain ⟨hb, hhb⟩ : ∃ b, w4.heap.size = b := ⟨_, rfl⟩
      have hlen : (hs ++ ks).length ≤ 3000000 := by rw [List.length_append]; omega
      rw [hhk] at hg5 hlen ⊢
      rw [hhb] at hg5 hlt5 ⊢
      have HHK := hid hhk
      have HHB := hid hhb
      clear hhk hhb
      have G5 := hid hg5
      have B5 := hid hb5
      clear hg5 hb5
      have z3 := B3.out.size
      have z4 := B4.out.size
      have HC := hid (uncA hb hk.length hk s1 s2 w2.heap.size w3.heap.size w3.heap.size w4.heap.size us.length gs.length d1 d2 w5 G5.out hlt5 hlen ((CC1.out.below B4.out (Nat.le_refl _)).below B5.out (Nat.le_refl _)) (CC2.out.below B5.out (Nat.le_refl _)) (len_of_con E1.out) (len_of_con E2.out) hl1 hl2 (fun e => by have := CC1.out.blk.lt e; have := HHB.out; omega) (fun e => by have := CC2.out.blk.lt e; have := HHB.out; omega) (Nat.le_refl _) z3 (fun e => CC1.out.blk.lt e))
      go_wp2_with fail
      refine HC.out.mono ?_
      rintro e w6 ⟨rfl, hx1, hx2, hk6⟩
      have hb26 : Below w2.heap.size w2 w6 := (B24.out.trans (B5.out.mono B24.out.size)).trans (hk6.below (by have := HHB.out; omega) (Nat.le_refl _) z3)
      have X6 := hid hx1
      have Y6 := hid hx2
      have U6 := hid (HU2.out.below hb26 (Nat.le_refl _))
      have V6 := hid (HV2.out.below hb26 (Nat.le_refl _))
      have HH6 := hid (grs_below HH2.out hb26)
      have HK6 := hid (grs_below HK2.out hb26)
      have HB6 : Hid (Below w.heap.size w w6) := hid (HBW.out.trans (hb26.mono (Nat.le_of_eq HZ2.out.symm)))
      clear hx1 hx2 hk6 hb26 HC CC1 CC2 B3 B4 B24 B5 G5 hlt5 HU2 HV2 HH2 HK2 HBW HZ2 z3 z4
      go_wp2_with fail
      refine (toSubsC su cu us w6 U6.out SU.out NU.out).mono ?_
      rintro e w7 ⟨⟨d3, s3, rfl, i3, e3, C3⟩, hb7⟩
      have CC3 := hid C3
      have E3 := hid e3
      have I3 := hid i3
      have B7 := hid hb7
      clear C3 e3 hb7 i3
      go_wp2_with fail
      refine (toSubsC sg cg gs w7 (V6.out.below B7.out (Nat.le_refl _)) SG.out NG.out).mono ?_
      rintro e w8 ⟨⟨d4, s4, rfl, i4, e4, C4⟩, hb8⟩
      have CC4 := hid C4
      have E4 := hid e4
      have I4 := hid i4
      have B8 := hid hb8
      have B68 : Hid (Below w6.heap.size w6 w8) := hid (B7.out.trans (hb8.mono B7.out.size))
      clear C4 e4 hb8 i4
      go_wp2_with fail
      refine (toGr1 sh ch hs w8 (grs_below HH6.out B68.out) hl3).mono ?_
      rintro e w9 ⟨rfl, hg9, hb9, hlt9⟩
      obtain ⟨ha, hha⟩ : ∃ b, w8.heap.size = b := ⟨_, rfl⟩
      rw [hha] at hg9 hlt9 ⊢
      have HHA := hid hha
      clear hha
      have G9 := hid hg9
      have B9 := hid hb9
      clear hg9 hb9
      have z7 := B7.out.size
      have z8 := B8.out.size
      have z9 := B9.out.size
      have hlen1 : hs.length ≤ 3000000 := by omega
      have hlen2 : ks.length ≤ 3000000 := by omega
      have HC := hid (uncA ha hs.length hs s3 s4 w6.heap.size w7.heap.size w7.heap.size w8.heap.size us.length gs.length d3 d4 w9 G9.out hlt9 hlen1 ((CC3.out.below B8.out (Nat.le_refl _)).below B9.out (Nat.le_refl _)) (CC4.out.below B9.out (Nat.le_refl _)) (len_of_con E3.out) (len_of_con E4.out) hl1 hl2 (fun e => by have := CC3.out.blk.lt e; have := HHA.out; omega) (fun e => by have := CC4.out.blk.lt e; have := HHA.out; omega) (Nat.le_refl _) z7 (fun e => CC3.out.blk.lt e))
      have LT3 : Hid (s3.isSome = true → w6.heap.size < w7.heap.size) := hid fun e => CC3.out.blk.lt e
      have LT4 : Hid (s4.isSome = true → w7.heap.size < w8.heap.size) := hid fun e => CC4.out.blk.lt e
      go_wp2_with fail
      refine HC.out.mono ?_
      rintro e w10 ⟨rfl, hx3, hx4, hk10⟩
      have hb610 : Below w6.heap.size w6 w10 := (B68.out.trans (B9.out.mono B68.out.size)).trans (hk10.below (by omega) (Nat.le_refl _) z7)
      have z10 := hk10.size
      have P10 := hid hx3
      have Q10 := hid hx4
      have B610 := hid hb610
      clear hx3 hx4 hk10 hb610 HC CC3 CC4 B7 B8 B68 B9 G9
      go_wp2_with fail
      refine (toGr1 sk ck ks w10 (grs_below HK6.out B610.out) hl4).mono ?_
      rintro e w11 ⟨rfl, hg11, hb11, hlt11⟩
      obtain ⟨hc, hhc⟩ : ∃ b, w10.heap.size = b := ⟨_, rfl⟩
      rw [hhc] at hg11 hlt11 ⊢
      have HHC := hid hhc
      clear hhc
      have G11 := hid hg11
      have B11 := hid hb11
      clear hg11 hb11
      have HC := hid (uncB hc ks.length ks s3 s4 w6.heap.size w7.heap.size w7.heap.size w8.heap.size us.length gs.length (filU hs d3) (filG hs d4) w11 G11.out hlt11 hlen2 (P10.out.below B11.out (Nat.le_refl _)) (Q10.out.below B11.out (Nat.le_refl _)) (filU_le hs E3.out) (filG_le hs E4.out) hl1 hl2 (fun e => by have := LT3.out e; have := HHC.out; omega) (fun e => by have := LT4.out e; have := HHC.out; omega) (Nat.le_refl _) z7 LT3.out)
      go_wp2_with fail
      refine HC.out.mono ?_
      rintro e w12 ⟨rfl, hx5, hx6, hk12⟩
      have hb612 : Below w6.heap.size w6 w12 := (B610.out.trans (B11.out.mono B610.out.size)).trans (hk12.below (by have := HHC.out; omega) (Nat.le_refl _) z7)
      have X := hid (X6.out.below hb612 (Nat.le_refl _))
      have Y := hid (Y6.out.below hb612 (Nat.le_refl _))
      have R := hid hx5
      have S := hid hx6
      have U := hid (U6.out.below hb612 (Nat.le_refl _))
      have V := hid (V6.out.below hb612 (Nat.le_refl _))
      have HHn := hid (grs_below HH6.out hb612)
      have HKn := hid (grs_below HK6.out hb612)
      have HBn : Hid (Below w.heap.size w w12) := hid (HB6.out.trans (hb612.mono HB6.out.size))
      clear hx5 hx6 hk12 hb612 HC P10 Q10 B610 G11 B11 X6 Y6 U6 V6 HH6 HK6 HB6 LT3 LT4 z7 z8 z9 z10 hlt9 hlt11 hlen hlen1 hlen2
      have k1 := fun w => Lib.run_eql_slice_nil (P := Try.prog) w 27 45 s1 (filU hk d1).length us.length 0 0 Try.underlying27
      have k2 := fun w => Lib.run_eql_slice_nil (P := Try.prog) w 22 40 su us.length cu 0 0 Try.underlying22
      have k3 := fun w => Lib.run_eql_slice_nil (P := Try.prog) w 27 45 s2 (filG hk d2).length gs.length 0 0 Try.underlying27
      have k4 := fun w => Lib.run_eql_slice_nil (P := Try.prog) w 22 40 sg gs.length cg 0 0 Try.underlying22
      obtain ⟨nb, hnb⟩ : ∃ nb, su.isNone = nb := ⟨_, rfl⟩
      obtain ⟨mb, hmb⟩ : ∃ mb, sg.isNone = mb := ⟨_, rfl⟩
      rw [I1.out, hnb] at k1
      rw [hnb] at k2
      rw [I2.out, hmb] at k3
      rw [hmb] at k4
      clear hnb hmb
      have MU := hid (matchU s1 su sh sk us.length cu ch ck (filU hk d1) us hs ks w12 X.out.sl U.out HHn.out HKn.out SU.out hl3 hl4 (by rw [← HHK.out]; exact filU_match2 E1.out))
      go_wp2_with fail
      refine MU.out.mono ?_
      rintro e w13 ⟨rfl, hb13⟩
      have MG := hid (matchG s2 sg sh sk gs.length cg ch ck (filG hk d2) gs hs ks w13 (Y.out.sl.below hb13 (Nat.le_refl _)) (V.out.below hb13 (Nat.le_refl _)) (grs_below HHn.out hb13) (grs_below HKn.out hb13) SG.out hl3 hl4 (by rw [← HHK.out]; exact filG_match2 E2.out))
      have B13 := hid hb13
      clear hb13 MU
      go_wp2_with fail
      refine MG.out.mono ?_
      rintro e w14 ⟨rfl, hb14⟩
      have B14 : Hid (Below w12.heap.size w12 w14) := hid (B13.out.trans (hb14.mono B13.out.size))
      clear hb14 MG B13
      have T1 := hid (tailZero s1 _ us.length us.length (filU hk d1).length (filU hk d1) w14 (X.out.below B14.out (Nat.le_refl _)).blk rfl (filU_le _ E1.out) hl1)
      have T2 := hid (tailZero s2 _ gs.length gs.length (filG hk d2).length (filG hk d2) w14 (Y.out.below B14.out (Nat.le_refl _)).blk rfl (filG_le _ E2.out) hl2)
      go_wp2_with fail
      refine T1.out.mono ?_
      rintro e w15 ⟨rfl, hw⟩
      obtain rfl := hw.symm
      clear hw
      go_wp2_with fail
      refine T2.out.mono ?_
      rintro e w15 ⟨rfl, hw⟩
      obtain rfl := hw.symm
      clear hw T1 T2
      have SL1 := hid (sameLists s1 s3 us.length us.length (filU hk d1).length (filU hk d1) (filU ks (filU hs d3)) w14 (X.out.sl.below B14.out (Nat.le_refl _)) (R.out.below B14.out (Nat.le_refl _)) rfl (by rw [filU_two]; exact Nat.le_trans (filU_le _ E3.out) hl1) (filU_by E1.out SU.out) (I1.out.trans I3.out.symm) (by rw [← HHK.out]; exact filU_same E1.out E3.out))
      go_wp2_with fail
      refine SL1.out.mono ?_
      rintro e w15 ⟨rfl, hb15⟩
      have B15 : Hid (Below w12.heap.size w12 w15) := hid (B14.out.trans (hb15.mono B14.out.size))
      clear hb15 SL1 B14
      have SL2 := hid (sameLists s2 s4 gs.length gs.length (filG hk d2).length (filG hk d2) (filG ks (filG hs d4)) w15 (Y.out.sl.below B15.out (Nat.le_refl _)) (S.out.below B15.out (Nat.le_refl _)) rfl (by rw [filG_two]; exact Nat.le_trans (filG_le _ E4.out) hl2) (filG_by E2.out SG.out) (I2.out.trans I4.out.symm) (by rw [← HHK.out]; exact filG_same E2.out E4.out))
      go_wp2_with fail
      refine SL2.out.mono ?_
      rintro e w16 ⟨rfl, hb16⟩
      have HF : Hid (Below w.heap.size w w16) := hid (HBn.out.trans ((B15.out.trans (hb16.mono B15.out.size)).mono HBn.out.size))
      clear hb16
      go_wp2
      go_ret
      exact ⟨rfl, HF.out⟩
end Go.Proofs.Qxb6615619aR
