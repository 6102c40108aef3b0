/-
  Seat b6615619a. FnUncoveredSubjectsAnyCut: the walk.
-/
import Derived.Test.Qxb6615619aRK
namespace Go.Proofs.Qxb6615619aR
open Go.RowKit
attribute [local go_sem ↓] Go.wp_at_zero Go.wp_at_succ

def filU (gs : List Gr) (l : List El) : List El := l.filter fun e => !pU gs e
def filG (gs : List Gr) (l : List El) : List El := l.filter fun e => !pG gs e

theorem size40 (w : World) : (sizeOf 40).run Try.prog w = .ok 3 w := by kernel_rfl
theorem slice_from (so : Option Addr) (n c i : Nat) (hi : i ≤ n) (w : World) :
    (Instr.slice 22 (.slice so n c) (some (.int .i64 (i : Int))) none none).run Try.prog w = .ok (.slice (if c = i then so else so.map fun x => x.add (i * 3)) (n - i) (c - i)) w := by
  have he : Try.prog.elem 22 = 40 := by kernel_rfl
  rw [run_slice_l w 22 so n c (by rw [he]; exact Try.underlying22) .i64 i (by omega) (by omega), he, size40]
  simp [sliced]
theorem slice_to (so : Option Addr) (n c i : Nat) (hi : i ≤ c) (w : World) :
    (Instr.slice 22 (.slice so n c) none (some (.int .i64 (i : Int))) none).run Try.prog w = .ok (.slice so i c) w := by
  have he : Try.prog.elem 22 = 40 := by kernel_rfl
  rw [run_slice_h w 22 so n c (by rw [he]; exact Try.underlying22) .i64 i (by omega) (by omega), he, size40]
  simp [sliced]
  intro _
  cases so with
  | none => rfl
  | some a => simp [Addr.add]
theorem add_at (b o j : Nat) : (⟨b, o, none⟩ : Addr).add j = ⟨b, o + j, none⟩ := by unfold Addr.add; split <;> simp_all
theorem Sl.take {w : World} {so : Option Addr} {els : List El} (h : Sl w so els) (i : Nat) : Sl w so (els.take i) :=
  ⟨fun hp => by
    simp at hp
    obtain ⟨b, off, rfl, hlt, hs⟩ := h.pos (by omega)
    exact ⟨b, off, rfl, hlt, fun k hk => by
      simp at hk
      rw [List.getElem_take]
      exact hs k (by omega)⟩, fun e he => h.good e (List.mem_of_mem_take he)⟩
/-- The tail of a slice. -/
theorem tail_of {so : Option Addr} {els : List El} {c i : Nat} (hi : i ≤ els.length) (hc : els.length ≤ c) (hn : so = none → els = [] ∧ c = 0) :
    ∃ s2 : Option Addr, (∀ w, (Instr.slice 22 (.slice so els.length c) (some (.int .i64 (i : Int))) none none).run Try.prog w = .ok (.slice s2 (els.length - i) (c - i)) w) ∧ (∀ w, Sl w so els → Sl w s2 (els.drop i)) ∧ (s2 = none → els.drop i = [] ∧ c - i = 0) := by
  refine ⟨_, fun w => slice_from so els.length c i hi w, fun w h => ⟨fun hp => ?_, fun e he => h.good e (List.mem_of_mem_drop he)⟩, fun hs => ?_⟩
  · simp at hp
    obtain ⟨b, off, rfl, hlt, hs⟩ := h.pos (by omega)
    rw [if_neg (by omega)]
    refine ⟨b, off + i * 3, by simp [add_at], hlt, fun k hk => ?_⟩
    simp at hk
    have := hs (i + k) (by omega)
    rw [List.getElem_drop, show off + i * 3 + k * 3 = off + (i + k) * 3 by omega]
    exact this
  · by_cases hci : c = i
    · rw [if_pos hci] at hs
      obtain ⟨rfl, rfl⟩ := hn hs
      simp
    · rw [if_neg hci] at hs
      cases so with
      | none => obtain ⟨rfl, rfl⟩ := hn rfl; simp
      | some a => cases hs

theorem toSubsN (so : Option Addr) (c n : Nat) (els : List El) (w : World) (hS : Sl w so els) (hm : Small els) (hn : so = none → els = [] ∧ c = 0) (hl : els.length = n) :
    Calls Try.prog 8 #[.slice so n c] w fun e w' => (∃ ds so', e = .returned (.slice so' n n) ∧ so'.isNone = so.isNone ∧ ds.map con = els.map con ∧ Cp w' so' w.heap.size w'.heap.size ds []) ∧ Below w.heap.size w w' := by
  subst hl
  exact toSubsC so c els w hS hm hn
theorem Small.take {els : List El} (h : Small els) (i : Nat) : Small (els.take i) := ⟨Nat.le_trans (by simp; omega) h.len, fun e he => h.each e (List.mem_of_mem_take he)⟩
theorem Small.drop {els : List El} (h : Small els) (i : Nat) : Small (els.drop i) := ⟨Nat.le_trans (by simp) h.len, fun e he => h.each e (List.mem_of_mem_drop he)⟩
theorem toGr1 (sa : Option Addr) (ca : Nat) (ga : List Gr) (w : World) (hA : Gl w sa ga) (la : ga.length ≤ 1048576) :
    Calls Try.prog 10 #[.slice sa ga.length ca, .slice none 0 0] w fun e w' => e = .returned (.slice (some ⟨w.heap.size, 0, none⟩) ga.length ga.length) ∧ GrAt w' w.heap.size 0 ga ∧ Below w.heap.size w w' ∧ w.heap.size < w'.heap.size := by
  have := toGr sa none ca 0 ga [] w hA ⟨fun hp => by simp at hp⟩ la (by simp)
  rw [List.append_nil] at this
  exact this
theorem len_of_con {ds us : List El} (h : ds.map con = us.map con) : ds.length = us.length := by have := congrArg List.length h; simpa using this
theorem Sl.drew {w : World} {so : Option Addr} {els : List El} (h : Sl w so els) : Sl w.drew so els := ⟨h.pos, h.good⟩
theorem uncF (hb c : Nat) (gs : List Gr) (su sg : Option Addr) (ub gb hiU hiG nu ng : Nat) (eu eg : List El) (w : World)
    (hG : GrAt w hb 0 gs) (lb : hb < w.heap.size) (hlen : gs.length ≤ 1048576) (CU : Cp w su ub hiU eu []) (CV : Cp w sg gb hiG eg []) (hnu : eu.length = nu) (hng : eg.length = ng) (lu : nu ≤ 1048576) (lg : ng ≤ 1048576)
    (du : hb < ub) (h1 : hiU ≤ gb) (h2 : ub ≤ gb) (h3 : su.isSome = true → ub < gb) (h4 : ub ≤ w.heap.size) :
    Calls Try.prog 9 #[.slice su nu nu, .slice sg ng ng, .slice (some ⟨hb, 0, none⟩) gs.length c] w fun e w' => e = .returned (.tuple #[.slice su (filU gs eu).length nu, .slice sg (filG gs eg).length ng]) ∧ Sl w' su (filU gs eu) ∧ Sl w' sg (filG gs eg) ∧ Below ub w w' := by
  refine (uncC hb c gs su sg ub gb hiU hiG nu ng nu ng eu eg [] [] w hG lb (by omega) CU CV hnu hng (by simp; omega) (by simp; omega) (by omega) (by omega) (by simp) (by simp) (fun _ => by omega) (fun _ => by omega) h1 h2 h3).mono ?_
  rintro e w' ⟨rfl, k1, k2, k3⟩
  exact ⟨rfl, k1.sl, k2.sl, k3.below h4 (Nat.le_refl _) h2⟩
theorem Sl.draw {w : World} {so : Option Addr} {els : List El} (h : Sl w so els) (q : Nat) : Sl (w.drewN q) so els := ⟨h.pos, h.good⟩
theorem Gl.draw {w : World} {so : Option Addr} {gs : List Gr} (h : Gl w so gs) (q : Nat) : Gl (w.drewN q) so gs := ⟨h.pos⟩

theorem nilApp (gs : List Gr) : gs ++ [] = gs := List.append_nil gs
theorem filU_match {ds us : List El} {hs : List Gr} (h : ds.map con = us.map con) : (filU hs ds).map con = (us.filter (qU hs [])).map con := by
  have e : qU hs [] = fun e => !pU hs e := funext fun e => by rw [qU_eq, nilApp]
  rw [e]
  exact filter_con _ (fun a b hab => by rw [pU_con hab]) ds us h
theorem filG_match {ds us : List El} {hs : List Gr} (h : ds.map con = us.map con) : (filG hs ds).map con = (us.filter (qG hs [])).map con := by
  have e : qG hs [] = fun e => !pG hs e := funext fun e => by rw [qG_eq, nilApp]
  rw [e]
  exact filter_con _ (fun a b hab => by rw [pG_con hab]) ds us h
theorem filU_con {ds us : List El} {hs : List Gr} (h : ds.map con = us.map con) : (filU hs ds).map con = (filU hs us).map con := filter_con _ (fun a b hab => by rw [pU_con hab]) ds us h
theorem filG_con {ds us : List El} {hs : List Gr} (h : ds.map con = us.map con) : (filG hs ds).map con = (filG hs us).map con := filter_con _ (fun a b hab => by rw [pG_con hab]) ds us h
theorem filU_len {ds us : List El} {hs : List Gr} {n : Nat} (h : ds.map con = us.map con) (hn : us.length = n) (hm : n ≤ 1048576) : (filU hs ds).length ≤ 1048576 := by
  have := List.length_filter_le (fun e => !pU hs e) ds
  have h2 := len_of_con h
  unfold filU
  omega
theorem filG_len {ds us : List El} {hs : List Gr} {n : Nat} (h : ds.map con = us.map con) (hn : us.length = n) (hm : n ≤ 1048576) : (filG hs ds).length ≤ 1048576 := by
  have := List.length_filter_le (fun e => !pG hs e) ds
  have h2 := len_of_con h
  unfold filG
  omega
theorem by_of_con {ds us : List El} (h : ds.map con = us.map con) (hS : Small us) : ∀ e ∈ ds, lenBy e.by_ := by
  intro e he
  have : con e ∈ us.map con := by rw [← h]; exact List.mem_map_of_mem he
  obtain ⟨u, hu, hc⟩ := List.mem_map.1 this
  simp only [con, Prod.mk.injEq] at hc
  rw [← hc.2.2]
  exact (hS.each u hu).2.2
theorem filU_by {ds us : List El} {hs : List Gr} (h : ds.map con = us.map con) (hS : Small us) : ∀ e ∈ filU hs ds, lenBy e.by_ := fun e he => by_of_con h hS e (List.mem_filter.1 he).1
theorem filG_by {ds us : List El} {hs : List Gr} (h : ds.map con = us.map con) (hS : Small us) : ∀ e ∈ filG hs ds, lenBy e.by_ := fun e he => by_of_con h hS e (List.mem_filter.1 he).1
theorem filU_cut {d1 d3 d5 us : List El} {hs : List Gr} {i : Nat} (h1 : d1.map con = us.map con) (h3 : d3.map con = (us.take i).map con) (h5 : d5.map con = (us.drop i).map con) : (filU hs d1).map con = (filU hs d3).map con ++ (filU hs d5).map con := by
  rw [filU_con h1, filU_con h3, filU_con h5, ← List.map_append]
  congr 1
  unfold filU
  rw [← List.filter_append, List.take_append_drop]
theorem filG_cut {d1 d3 d5 us : List El} {hs : List Gr} {i : Nat} (h1 : d1.map con = us.map con) (h3 : d3.map con = (us.take i).map con) (h5 : d5.map con = (us.drop i).map con) : (filG hs d1).map con = (filG hs d3).map con ++ (filG hs d5).map con := by
  rw [filG_con h1, filG_con h3, filG_con h5, ← List.map_append]
  congr 1
  unfold filG
  rw [← List.filter_append, List.take_append_drop]

set_option maxHeartbeats 2000000 in
theorem law4_in (su sg sh : Option Addr) (cu cg ch : Nat) (us gs : List El) (hs : List Gr) (i j : Nat) (w : World) (hU : Sl w su us) (hV : Sl w sg gs) (hH : Gl w sh hs) (lu : us.length ≤ maxLen) (lg : gs.length ≤ maxLen) (lh : hs.length ≤ maxLen)
    (nu : su = none → us = [] ∧ cu = 0) (ng : sg = none → gs = [] ∧ cg = 0) (hi : i ≤ us.length) (hj : j ≤ gs.length) (hcu : us.length ≤ cu) (hcg : gs.length ≤ cg) :
    Calls Try.prog 4 #[.slice su us.length cu, .slice sg gs.length cg, .slice sh hs.length ch, .int .i64 i, .int .i64 j] w fun e w' => e = .returned (.bool true) ∧ Below w.heap.size w w' := by
  have HZ := hid (zzB14 su sg sh cu cg ch us gs hs i j w hU hV hH lu lg lh)
  unfold maxLen at lu lg lh
  have HU := hid hU
  have HV := hid hV
  have HH := hid hH
  have NU := hid nu
  have NG := hid ng
  clear hU hV hH nu ng
  go_enter Try.func4, Try.ntmps4
  go_wp2_with fail
  refine HZ.out.mono ?_
  rintro e w1 ⟨⟨b, rfl, hb⟩, hw⟩
  obtain rfl := hw.symm
  cases b with
  | false =>
    go_wp2
    go_ret
    exact ⟨rfl, Below.refl _ _⟩
  | true =>
    obtain ⟨hSU, hSG, hSH⟩ := hb rfl
    have hl1 := hSU.len
    have hl2 := hSG.len
    have hl3 := hSH.len
    have SU := hid hSU
    have SG := hid hSG
    have SH := hid hSH
    clear hb hSU hSG hSH HZ hw
    go_wp2_with fail
    refine (sizeSubs 0 su cu us w HU.out (by omega) (by omega) SU.out).mono ?_
    rintro e w2 ⟨⟨r1, r10, r11, rfl⟩, q1, hw⟩
    subst hw
    go_wp2_with fail
    refine (sizeSubs r1 sg cg gs (w.drewN q1) (HV.out.draw q1) r10 r11 SG.out).mono ?_
    rintro e w2 ⟨⟨r2, r20, r21, rfl⟩, q2, hw⟩
    rw [World.drewN_drewN] at hw
    subst hw
    go_wp2_with fail
    refine (sizeGr r2 sh ch hs (w.drewN (q1 + q2)) (HH.out.draw _) r20 r21 hl3 SH.out.each).mono ?_
    rintro e w2 ⟨⟨r3, r30, r31, rfl⟩, q3, hw⟩
    rw [World.drewN_drewN] at hw
    have hbw : Below w.heap.size w w2 := by rw [hw]; exact ⟨rfl, rfl, rfl, Nat.le_refl _, fun _ _ => rfl⟩
    have hU2 : Sl w2 su us := by rw [hw]; exact HU.out.draw _
    have hV2 : Sl w2 sg gs := by rw [hw]; exact HV.out.draw _
    have hH2 : Gl w2 sh hs := by rw [hw]; exact HH.out.draw _
    have hz2 : w2.heap.size = w.heap.size := by rw [hw]; rfl
    have HBW := hid hbw
    have HZ2 := hid hz2
    have HU2 := hid hU2
    have HV2 := hid hV2
    have HH2 := hid hH2
    clear hw hbw hU2 hV2 hH2 hz2 HU HV HH
    by_cases hbig : (1048576 : Int) < r3
    · go_wp2
      go_ret
      exact ⟨rfl, HBW.out⟩
    · have ki : ¬ (i : Int) < 0 := by omega
      have ki2 : ¬ (us.length : Int) < (i : Int) := by omega
      have kj : ¬ (j : Int) < 0 := by omega
      have kj2 : ¬ (gs.length : Int) < (j : Int) := by omega
      go_wp2_with fail
      refine (toGr1 sh ch hs w2 HH2.out hl3).mono ?_
      rintro e w3 ⟨rfl, hg3, hb3, hlt3⟩
      obtain ⟨hb, hhb⟩ : ∃ hb, w2.heap.size = hb := ⟨_, rfl⟩
      rw [hhb] at hg3 hb3 hlt3 ⊢
      have G3 := hid hg3
      have U3 := hid (HU2.out.below hb3 (by omega))
      have V3 := hid (HV2.out.below hb3 (by omega))
      have HH3 := hid (grs_below HH2.out (by rw [hhb]; exact hb3))
      have HB3 : Hid (Below w.heap.size w w3) := hid (HBW.out.trans (hb3.mono (by rw [← hhb, HZ2.out]; exact Nat.le_refl _)))
      clear hg3 hb3 hhb HU2 HV2 HH2 HBW HZ2
      go_wp2_with fail
      refine (toSubsC su cu us w3 U3.out SU.out NU.out).mono ?_
      rintro e w4 ⟨⟨d1, s1, rfl, i1, e1, C1⟩, hb4⟩
      have CC1 := hid C1
      have E1 := hid e1
      have B4 := hid hb4
      have V4 := hid (V3.out.below hb4 (Nat.le_refl _))
      clear C1 e1 hb4 i1
      go_wp2_with fail
      refine (toSubsC sg cg gs w4 V4.out SG.out NG.out).mono ?_
      rintro e w5 ⟨⟨d2, s2, rfl, i2, e2, C2⟩, hb5⟩
      have CC2 := hid C2
      have E2 := hid e2
      have B5 := hid hb5
      clear C2 e2 hb5 i2
      have L1 := hid (len_of_con E1.out)
      have L2 := hid (len_of_con E2.out)
      have G5 := hid ((G3.out.below B4.out hlt3).below B5.out (Nat.lt_of_lt_of_le hlt3 B4.out.size))
      have lb5 : hb < w5.heap.size := Nat.lt_of_lt_of_le hlt3 (Nat.le_trans B4.out.size B5.out.size)
      have HC := hid (uncF hb hs.length hs s1 s2 w3.heap.size w4.heap.size w4.heap.size w5.heap.size us.length gs.length d1 d2 w5 G5.out lb5 hl3 (CC1.out.below B5.out (Nat.le_refl _)) CC2.out L1.out L2.out hl1 hl2 hlt3 (Nat.le_refl _) B4.out.size (fun e => CC1.out.blk.lt e) (Nat.le_trans B4.out.size B5.out.size))
      go_wp2_with fail
      refine HC.out.mono ?_
      rintro e w6 ⟨rfl, hx1, hx2, hb6⟩
      have hb36 : Below w3.heap.size w3 w6 := (B4.out.trans (B5.out.mono B4.out.size)).trans hb6
      have X6 := hid hx1
      have Y6 := hid hx2
      have U6 := hid (U3.out.below hb36 (Nat.le_refl _))
      have V6 := hid (V3.out.below hb36 (Nat.le_refl _))
      have HH6 := hid (grs_below HH3.out hb36)
      have G6 := hid (G3.out.below hb36 hlt3)
      have lb6 : hb < w6.heap.size := Nat.lt_of_lt_of_le hlt3 hb36.size
      have HB6 : Hid (Below w.heap.size w w6) := hid (HB3.out.trans (hb36.mono HB3.out.size))
      clear hx1 hx2 hb6 hb36 HC CC1 CC2 B4 B5 V4 U3 V3 HH3 G3 G5 L1 L2 HB3
      have NUT : Hid (su = none → us.take i = [] ∧ cu = 0) := fun h => ⟨by rw [(NU.out h).1, List.take_nil], (NU.out h).2⟩
      have NGT : Hid (sg = none → gs.take j = [] ∧ cg = 0) := fun h => ⟨by rw [(NG.out h).1, List.take_nil], (NG.out h).2⟩
      have hm1 : i ≤ 1048576 := by omega
      have hm2 : j ≤ 1048576 := by omega
      have ti : Hid ((us.take i).length = i) := by show _ = _; rw [List.length_take]; omega
      have tj : Hid ((gs.take j).length = j) := by show _ = _; rw [List.length_take]; omega
      have hs1 := fun w => slice_to su us.length cu i (by omega) w
      have hs2 := fun w => slice_to sg gs.length cg j (by omega) w
      have hle1 : (i : Int) ≤ (cu : Int) := by omega
      have hle2 : (j : Int) ≤ (cg : Int) := by omega
      go_wp2_with fail
      go_region_with (first | (go_at_call_of 8 (Value.slice su i cu); refine (toSubsN su cu i (us.take i) _ ?_ (SU.out.take i) ?_ ti.out).mono ?_; exact (U6.out.take i).drew; exact NUT.out; rintro e w7 ⟨⟨d3, s3, rfl, _, e3, C3⟩, hb7⟩; have CC3 := hid C3; have E3 := hid e3; have B7 := hid (undrew hb7); have V7 := hid ((V6.out.take j).below (undrew hb7) (Nat.le_refl _)); clear C3 e3 hb7) | (go_at_call_of 8 (Value.slice sg j cg); refine (toSubsN sg cg j (gs.take j) _ ?_ (SG.out.take j) ?_ tj.out).mono ?_; exact V7.out; exact NGT.out; rintro e w8 ⟨⟨d4, s4, rfl, _, e4, C4⟩, hb8⟩; have CC4 := hid C4; have E4 := hid e4; have B8 := hid hb8; clear C4 e4 hb8) | (go_at_call 9; refine (uncF hb hs.length hs s3 s4 w6.heap.size w7.heap.size w7.heap.size w8.heap.size i j d3 d4 w8 ((G6.out.below B7.out lb6).below B8.out (Nat.lt_of_lt_of_le lb6 B7.out.size)) (Nat.lt_of_lt_of_le lb6 (Nat.le_trans B7.out.size B8.out.size)) hl3 (CC3.out.below B8.out (Nat.le_refl _)) CC4.out ((len_of_con E3.out).trans ti.out) ((len_of_con E4.out).trans tj.out) hm1 hm2 lb6 (Nat.le_refl _) B7.out.size (fun e => CC3.out.blk.lt e) (Nat.le_trans B7.out.size B8.out.size)).mono ?_; rintro e w9 ⟨rfl, hx3, hx4, hb9⟩))
      have hb69 : Below w6.heap.size w6 w9 := (B7.out.trans (B8.out.mono B7.out.size)).trans hb9
      have X9 := hid (X6.out.below hb69 (Nat.le_refl _))
      have Y9 := hid (Y6.out.below hb69 (Nat.le_refl _))
      have P9 := hid hx3
      have Q9 := hid hx4
      have U9 := hid (U6.out.below hb69 (Nat.le_refl _))
      have V9 := hid (V6.out.below hb69 (Nat.le_refl _))
      have HH9 := hid (grs_below HH6.out hb69)
      have G9 := hid (G6.out.below hb69 lb6)
      have lb9 : hb < w9.heap.size := Nat.lt_of_lt_of_le lb6 hb69.size
      have HB9 : Hid (Below w.heap.size w w9) := hid (HB6.out.trans (hb69.mono HB6.out.size))
      clear hx3 hx4 hb9 hb69 CC3 CC4 B7 B8 V7 X6 Y6 U6 V6 HH6 G6 HB6 hs1 hs2
      obtain ⟨tu, htu, htuS, htun⟩ := tail_of hi hcu NU.out
      obtain ⟨tg, htg, htgS, htgn⟩ := tail_of hj hcg NG.out
      have hm3 : us.length - i ≤ 1048576 := by omega
      have hm4 : gs.length - j ≤ 1048576 := by omega
      have di : (us.drop i).length = us.length - i := List.length_drop
      have dj : (gs.drop j).length = gs.length - j := List.length_drop
      have htuS := hid htuS
      have htgS := hid htgS
      have htun := hid htun
      have htgn := hid htgn
      have di := hid di
      have dj := hid dj
      go_wp2_with fail
      go_region_with (first | (go_at_call_of 8 (Value.slice tu (us.length - i) (cu - i)); refine (toSubsN tu (cu - i) (us.length - i) (us.drop i) _ ?_ (SU.out.drop i) ?_ di.out).mono ?_; exact (htuS.out _ U9.out).drew; exact htun.out; rintro e w10 ⟨⟨d5, s5, rfl, _, e3, C3⟩, hb7⟩; have CC5 := hid C3; have E5 := hid e3; have B10 := hid (undrew hb7); have V10 := hid ((htgS.out _ V9.out).below (undrew hb7) (Nat.le_refl _)); clear C3 e3 hb7) | (go_at_call_of 8 (Value.slice tg (gs.length - j) (cg - j)); refine (toSubsN tg (cg - j) (gs.length - j) (gs.drop j) _ ?_ (SG.out.drop j) ?_ dj.out).mono ?_; exact V10.out; exact htgn.out; rintro e w11 ⟨⟨d6, s6, rfl, _, e4, C4⟩, hb8⟩; have CC6 := hid C4; have E6 := hid e4; have B11 := hid hb8; clear C4 e4 hb8) | (go_at_call 9; refine (uncF hb hs.length hs s5 s6 w9.heap.size w10.heap.size w10.heap.size w11.heap.size (us.length - i) (gs.length - j) d5 d6 w11 ((G9.out.below B10.out lb9).below B11.out (Nat.lt_of_lt_of_le lb9 B10.out.size)) (Nat.lt_of_lt_of_le lb9 (Nat.le_trans B10.out.size B11.out.size)) hl3 (CC5.out.below B11.out (Nat.le_refl _)) CC6.out ((len_of_con E5.out).trans di.out) ((len_of_con E6.out).trans dj.out) hm3 hm4 lb9 (Nat.le_refl _) B10.out.size (fun e => CC5.out.blk.lt e) (Nat.le_trans B10.out.size B11.out.size)).mono ?_; rintro e w12 ⟨rfl, hx5, hx6, hb12⟩))
      have hb912 : Below w9.heap.size w9 w12 := (B10.out.trans (B11.out.mono B10.out.size)).trans hb12
      have X := hid (X9.out.below hb912 (Nat.le_refl _))
      have Y := hid (Y9.out.below hb912 (Nat.le_refl _))
      have P := hid (P9.out.below hb912 (Nat.le_refl _))
      have Q := hid (Q9.out.below hb912 (Nat.le_refl _))
      have R := hid hx5
      have S := hid hx6
      have U := hid (U9.out.below hb912 (Nat.le_refl _))
      have V := hid (V9.out.below hb912 (Nat.le_refl _))
      have HHn := hid (grs_below HH9.out hb912)
      have HBn : Hid (Below w.heap.size w w12) := hid (HB9.out.trans (hb912.mono HB9.out.size))
      clear hx5 hx6 hb12 hb912 CC5 CC6 B10 B11 V10 X9 Y9 P9 Q9 U9 V9 HH9 G9 HB9 htu htg htuS htgS htun htgn
      have MU := hid (matchU s1 su sh none us.length cu ch 0 (filU hs d1) us hs [] w12 X.out U.out HHn.out ⟨fun hp => by simp at hp⟩ SU.out hl3 (by simp) (filU_match E1.out))
      go_wp2_with fail
      refine MU.out.mono ?_
      rintro e w13 ⟨rfl, hb13⟩
      have MG := hid (matchG s2 sg sh none gs.length cg ch 0 (filG hs d2) gs hs [] w13 (Y.out.below hb13 (Nat.le_refl _)) (V.out.below hb13 (Nat.le_refl _)) (grs_below HHn.out hb13) ⟨fun hp => by simp at hp⟩ SG.out hl3 (by simp) (filG_match E2.out))
      have B13 := hid hb13
      clear hb13 MU
      go_wp2_with fail
      refine MG.out.mono ?_
      rintro e w14 ⟨rfl, hb14⟩
      have hb1214 : Below w12.heap.size w12 w14 := B13.out.trans (hb14.mono B13.out.size)
      have CE := hid (concatEq s1 s3 s5 us.length i (us.length - i) (filU hs d1) (filU hs d3) (filU hs d5) w14 (X.out.below hb1214 (Nat.le_refl _)) (P.out.below hb1214 (Nat.le_refl _)) (R.out.below hb1214 (Nat.le_refl _)) (filU_len E3.out ti.out hm1) (filU_len E5.out di.out hm3) (filU_by E1.out SU.out) (filU_cut E1.out E3.out E5.out))
      have B14 := hid hb1214
      clear hb14 hb1214 MG B13
      go_wp2_with fail
      refine CE.out.mono ?_
      rintro e w15 ⟨rfl, hb15⟩
      have hb1215 : Below w12.heap.size w12 w15 := B14.out.trans (hb15.mono B14.out.size)
      have CE2 := hid (concatEq s2 s4 s6 gs.length j (gs.length - j) (filG hs d2) (filG hs d4) (filG hs d6) w15 (Y.out.below hb1215 (Nat.le_refl _)) (Q.out.below hb1215 (Nat.le_refl _)) (S.out.below hb1215 (Nat.le_refl _)) (filG_len E4.out tj.out hm2) (filG_len E6.out dj.out hm4) (filG_by E2.out SG.out) (filG_cut E2.out E4.out E6.out))
      have B15 := hid hb1215
      clear hb15 hb1215 CE B14
      go_wp2_with fail
      refine CE2.out.mono ?_
      rintro e w16 ⟨rfl, hb16⟩
      have HF : Hid (Below w.heap.size w w16) := hid (HBn.out.trans ((B15.out.trans (hb16.mono B15.out.size)).mono HBn.out.size))
      clear hb16
      go_wp2
      go_ret
      exact ⟨rfl, HF.out⟩
end Go.Proofs.Qxb6615619aR
