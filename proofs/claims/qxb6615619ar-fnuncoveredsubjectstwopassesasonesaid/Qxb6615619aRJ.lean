/-
  Seat b6615619a. matchFilteredB1, concatEqB1.
-/
import Derived.Test.Qxb6615619aRI
import Derived.Deep.DrawnRows
namespace Go.Proofs.Qxb6615619aR
open Go.RowKit
attribute [local go_sem ↓] Go.wp_at_zero Go.wp_at_succ

theorem nth_filter {α : Type} (q : α → Bool) (l : List α) (k : Nat) (hk : k < l.length) (h : q l[k] = true) :
    (l.filter q)[((l.take k).filter q).length]? = some l[k] ∧ ((l.take k).filter q).length + 1 = ((l.take (k + 1)).filter q).length := by
  constructor
  · have e : l = l.take k ++ (l[k] :: l.drop (k + 1)) := by rw [← List.drop_eq_getElem_cons hk, List.take_append_drop]
    have e2 : l.filter q = (l.take k).filter q ++ (l[k] :: (l.drop (k + 1)).filter q) := by
      conv => lhs; rw [e, List.filter_append]
      rw [List.filter_cons_of_pos h]
    rw [e2, List.getElem?_append_right (Nat.le_refl _), Nat.sub_self]
    rfl
  · rw [List.take_succ_eq_append_getElem hk, List.filter_append, List.length_append, List.filter_cons_of_pos h]
    rfl
theorem skip_filter {α : Type} (q : α → Bool) (l : List α) (k : Nat) (hk : k < l.length) (h : q l[k] = false) : ((l.take k).filter q).length = ((l.take (k + 1)).filter q).length := by
  rw [List.take_succ_eq_append_getElem hk, List.filter_append, List.length_append, List.filter_cons_of_neg (by simp [h])]
  rfl
/-- The next of what is kept. -/
theorem next_con {rs ins : List El} {q : El → Bool} (hr : rs.map con = (ins.filter q).map con) {k : Nat} (hk : k < ins.length) (h : q ins[k] = true) :
    ∃ hm : ((ins.take k).filter q).length < rs.length, con rs[((ins.take k).filter q).length] = con ins[k] := by
  have h1 := (nth_filter q ins k hk h).1
  have h2 : (rs.map con)[((ins.take k).filter q).length]? = some (con ins[k]) := by
    rw [hr, List.getElem?_map, h1]; rfl
  rw [List.getElem?_map] at h2
  obtain ⟨x, hx, hc⟩ := Option.map_eq_some_iff.1 h2
  obtain ⟨hm, he⟩ := List.getElem?_eq_some_iff.1 hx
  exact ⟨hm, by rw [he]; exact hc⟩

theorem Sl.below {w w' : World} {so : Option Addr} {els : List El} (h : Sl w so els) {B : Nat} (hb : Below B w w') (hB : w.heap.size ≤ B) : Sl w' so els :=
  ⟨fun hp => by
    obtain ⟨b, off, rfl, hlt, hs⟩ := h.pos hp
    exact ⟨b, off, rfl, Nat.lt_of_lt_of_le hlt hb.size, fun i hi => by
      obtain ⟨h0, h1, h2⟩ := hs i hi
      exact ⟨(hb.cell (p := ⟨b, off + i * 3, none⟩) (Nat.lt_of_lt_of_le hlt hB)).trans h0, (hb.cell (p := ⟨b, off + i * 3 + 1, none⟩) (Nat.lt_of_lt_of_le hlt hB)).trans h1, (hb.cell (p := ⟨b, off + i * 3 + 2, none⟩) (Nat.lt_of_lt_of_le hlt hB)).trans h2⟩⟩,
   fun e he => (h.good e he).below hb hB⟩

/-- Is the user not covered? As the model has it. -/
def qU (g1 g2 : List Gr) (e : El) : Bool := !(g1.any (hitU e.name e.ing) || g2.any (hitU e.name e.ing))
def qG (g1 g2 : List Gr) (e : El) : Bool := !(g1.any (hitG e.name) || g2.any (hitG e.name))

set_option maxHeartbeats 400000 in
theorem matchU (sr si s1 s2 : Option Addr) (cr ci k1 k2 : Nat) (rs ins : List El) (g1 g2 : List Gr) (w : World) (hR : Sl w sr rs) (hI : Sl w si ins) (h1 : Gl w s1 g1) (h2 : Gl w s2 g2) (hm : Small ins) (l1 : g1.length ≤ 1048576) (l2 : g2.length ≤ 1048576)
    (hcon : rs.map con = (ins.filter (qU g1 g2)).map con) :
    Calls Try.prog 11 #[.slice sr rs.length cr, .slice si ins.length ci, .slice s1 g1.length k1, .slice s2 g2.length k2, .bool false] w fun e w' => e = .returned (.bool true) ∧ Below w.heap.size w w' := by
  obtain ⟨hl, hsm⟩ := hm
  have hrl : rs.length ≤ ins.length := by have := congrArg List.length hcon; simp at this; rw [this]; exact List.length_filter_le _ _
  have CON := hid hcon
  have HR := hid hR
  have HI := hid hI
  have H1 := hid h1
  have H2 := hid h2
  have SM := hid hsm
  clear hcon hR hI h1 h2 hsm
  go_enter Try.func11, Try.ntmps11
  go_wp2
  go_loopw [11, 12] (fun s11 s12 wr => ∃ (k m : Nat), s12 = .int .i64 k ∧ s11 = .int .i64 m ∧ k ≤ ins.length ∧ m ≤ k ∧ Hid (m = ((ins.take k).filter (qU g1 g2)).length) ∧ Below w.heap.size w wr) (fun _ s12 _ => ins.length - (intOf s12).toNat)
  case atStart => exact ⟨0, 0, rfl, rfl, Nat.zero_le _, Nat.le_refl _, rfl, Below.refl _ _⟩
  case round =>
    obtain ⟨k, m, rfl, rfl, hk, hmk, HM, hbel⟩ := hrel
    have HB := hid hbel
    by_cases hlt : k < ins.length
    · obtain ⟨b, off, rfl, hb1, hs⟩ := (HI.out.below hbel (Nat.le_refl _)).pos (by omega)
      obtain ⟨c0, c1, c2⟩ := hs k hlt
      have hIk : (k : Int) < (ins.length : Int) := by omega
      have HC1 := hid (coveredUser ins[k].name ins[k].ing ins[k].ba ins[k].bn ins[k].bc s1 k1 g1 wr (grs_below H1.out hbel) l1)
      clear hs hbel
      cases x1 : g1.any (hitU ins[k].name ins[k].ing) with
      | true =>
        have HQ : Hid (qU g1 g2 ins[k] = false) := by show _ = _; simp only [qU, x1]; rfl
        rw [x1] at HC1
        clear x1
        go_wp2_with (go_at_call 22; refine HC1.out.mono ?_; rintro e w1 ⟨rfl, hb2⟩)
        refine ⟨⟨k + 1, m, by go_num, rfl, by omega, by omega, ?_, HB.out.trans (hb2.mono HB.out.size)⟩, by simp [intOf]; omega⟩
        exact HM.out.trans (skip_filter _ _ _ hlt HQ.out)
      | false =>
        have X1 := hid x1
        rw [x1] at HC1
        clear x1
        go_wp2_with fail
        refine HC1.out.mono ?_
        rintro e w1 ⟨rfl, hb2⟩
        have hbw1 : Below w.heap.size w w1 := HB.out.trans (hb2.mono HB.out.size)
        have HB1 := hid hbw1
        have HC2 := hid (coveredUser ins[k].name ins[k].ing ins[k].ba ins[k].bn ins[k].bc s2 k2 g2 w1 (grs_below H2.out hbw1) l2)
        have d0 := (hb2.cell (p := ⟨b, off + k * 3, none⟩) hb1).trans c0
        have d1 := (hb2.cell (p := ⟨b, off + k * 3 + 1, none⟩) hb1).trans c1
        have d2 := (hb2.cell (p := ⟨b, off + k * 3 + 2, none⟩) hb1).trans c2
        have hb1' : b < w1.heap.size := Nat.lt_of_lt_of_le hb1 hb2.size
        clear hbw1 hb2 HC1 c0 c1 c2
        cases x2 : g2.any (hitU ins[k].name ins[k].ing) with
        | true =>
          have HQ : Hid (qU g1 g2 ins[k] = false) := by show _ = _; simp only [qU, X1.out, x2]; rfl
          rw [x2] at HC2
          clear x2
          go_wp2_with (go_at_call 22; refine HC2.out.mono ?_; rintro e w2 ⟨rfl, hb2⟩)
          refine ⟨⟨k + 1, m, by go_num, rfl, by omega, by omega, ?_, HB1.out.trans (hb2.mono HB1.out.size)⟩, by simp [intOf]; omega⟩
          exact HM.out.trans (skip_filter _ _ _ hlt HQ.out)
        | false =>
          have HQ : Hid (qU g1 g2 ins[k] = true) := by show _ = _; simp only [qU, X1.out, x2]; rfl
          rw [x2] at HC2
          clear x2
          obtain ⟨hmr, hce⟩ := next_con CON.out hlt HQ.out
          rw [← HM.out] at hmr
          have hce2 : con rs[m] = con ins[k] := by
            have e : rs[m] = rs[((ins.take k).filter (qU g1 g2)).length]'(by rw [← HM.out]; exact hmr) := by congr 1
            rw [e]; exact hce
          simp only [con, Prod.mk.injEq] at hce2
          obtain ⟨en, ei, eb⟩ := hce2
          have NX := hid (nth_filter (qU g1 g2) ins k hlt HQ.out).2
          clear hce
          go_wp2_with fail
          refine HC2.out.mono ?_
          rintro e w2 ⟨rfl, hb3⟩
          have hbw2 : Below w.heap.size w w2 := HB1.out.trans (hb3.mono HB1.out.size)
          have HB2 := hid hbw2
          have hb2' : b < w2.heap.size := Nat.lt_of_lt_of_le hb1' hb3.size
          obtain ⟨rb, ro, hrb, hrl2, hrs⟩ := (HR.out.below hbw2 (Nat.le_refl _)).pos (by omega)
          obtain ⟨r0, r1, r2⟩ := hrs m hmr
          have f0 := (hb3.cell (p := ⟨b, off + k * 3, none⟩) hb1').trans d0
          have f1 := (hb3.cell (p := ⟨b, off + k * 3 + 1, none⟩) hb1').trans d1
          have f2 := (hb3.cell (p := ⟨b, off + k * 3 + 2, none⟩) hb1').trans d2
          rw [en] at r0
          rw [ei] at r1
          have hga := (HR.out.good rs[m] (List.getElem_mem hmr)).below hbw2 (Nat.le_refl _)
          rw [eb] at hga
          have hgb := (HI.out.good ins[k] (List.getElem_mem hlt)).below hbw2 (Nat.le_refl _)
          have HS := hid (sameModel ins[k].name ins[k].ing rs[m].ba ins[k].ba rs[m].bn ins[k].bn rs[m].bc ins[k].bc ins[k].by_ w2.drew hga hgb (SM.out ins[k] (List.getElem_mem hlt)).2.2)
          subst hrb
          clear hrs hga hgb en ei eb d0 d1 d2 hbw2 hb3 HC2
          have hG1 : decide ((rs.length : Int) ≤ (m : Int)) = false := by simp; omega
          have hG2 : (m : Int) < (rs.length : Int) := by omega
          have hG3 : ¬ rs.length ≤ m := by omega
          go_wp2_with fail
          go_region_held3 (fun w' => w'.cell? ⟨rb, ro + m * 3, none⟩ = some (.string ins[k].name) ∧ w'.cell? ⟨rb, ro + m * 3 + 1, none⟩ = some (.string ins[k].ing) ∧ w'.cell? ⟨rb, ro + m * 3 + 2, none⟩ = some (.slice rs[m].ba rs[m].bn rs[m].bc) ∧ w'.cell? ⟨b, off + k * 3, none⟩ = some (.string ins[k].name) ∧ w'.cell? ⟨b, off + k * 3 + 1, none⟩ = some (.string ins[k].ing) ∧ w'.cell? ⟨b, off + k * 3 + 2, none⟩ = some (.slice ins[k].ba ins[k].bn ins[k].bc)) (go_keep)
            ((go_at_call 23; refine HS.out.mono ?_; rintro e w3 ⟨rfl, hb4⟩; have z0 := (hb4.cell (p := ⟨rb, ro + m * 3, none⟩) hrl2).trans r0; have z1 := (hb4.cell (p := ⟨rb, ro + m * 3 + 1, none⟩) hrl2).trans r1; have z2 := (hb4.cell (p := ⟨rb, ro + m * 3 + 2, none⟩) hrl2).trans r2; have y0 := (hb4.cell (p := ⟨b, off + k * 3, none⟩) hb2').trans f0; have y1 := (hb4.cell (p := ⟨b, off + k * 3 + 1, none⟩) hb2').trans f1; have y2 := (hb4.cell (p := ⟨b, off + k * 3 + 2, none⟩) hb2').trans f2))
          all_goals
            go_wp2
            refine ⟨⟨k + 1, m + 1, by go_num, by go_num, by omega, by omega, ?_, HB2.out.trans ((undrew hb4).mono HB2.out.size)⟩, by simp [intOf]; omega⟩
            show m + 1 = _
            rw [← NX.out, HM.out]
    · obtain rfl : k = ins.length := by omega
      have hfin : m = rs.length := by
        have h1 := congrArg List.length CON.out
        rw [List.length_map, List.length_map] at h1
        rw [h1, HM.out, List.take_length]
      have hq : ((m : Int) == (rs.length : Int)) = true := by rw [hfin]; exact beq_self_eq_true _
      clear hfin
      go_wp2
      go_ret
      exact ⟨rfl, HB.out⟩
set_option maxHeartbeats 400000 in
theorem matchG (sr si s1 s2 : Option Addr) (cr ci k1 k2 : Nat) (rs ins : List El) (g1 g2 : List Gr) (w : World) (hR : Sl w sr rs) (hI : Sl w si ins) (h1 : Gl w s1 g1) (h2 : Gl w s2 g2) (hm : Small ins) (l1 : g1.length ≤ 1048576) (l2 : g2.length ≤ 1048576)
    (hcon : rs.map con = (ins.filter (qG g1 g2)).map con) :
    Calls Try.prog 11 #[.slice sr rs.length cr, .slice si ins.length ci, .slice s1 g1.length k1, .slice s2 g2.length k2, .bool true] w fun e w' => e = .returned (.bool true) ∧ Below w.heap.size w w' := by
  obtain ⟨hl, hsm⟩ := hm
  have hrl : rs.length ≤ ins.length := by have := congrArg List.length hcon; simp at this; rw [this]; exact List.length_filter_le _ _
  have CON := hid hcon
  have HR := hid hR
  have HI := hid hI
  have H1 := hid h1
  have H2 := hid h2
  have SM := hid hsm
  clear hcon hR hI h1 h2 hsm
  go_enter Try.func11, Try.ntmps11
  go_wp2
  go_loopw [11, 12] (fun s11 s12 wr => ∃ (k m : Nat), s12 = .int .i64 k ∧ s11 = .int .i64 m ∧ k ≤ ins.length ∧ m ≤ k ∧ Hid (m = ((ins.take k).filter (qG g1 g2)).length) ∧ Below w.heap.size w wr) (fun _ s12 _ => ins.length - (intOf s12).toNat)
  case atStart => exact ⟨0, 0, rfl, rfl, Nat.zero_le _, Nat.le_refl _, rfl, Below.refl _ _⟩
  case round =>
    obtain ⟨k, m, rfl, rfl, hk, hmk, HM, hbel⟩ := hrel
    have HB := hid hbel
    by_cases hlt : k < ins.length
    · obtain ⟨b, off, rfl, hb1, hs⟩ := (HI.out.below hbel (Nat.le_refl _)).pos (by omega)
      obtain ⟨c0, c1, c2⟩ := hs k hlt
      have hIk : (k : Int) < (ins.length : Int) := by omega
      have HC1 := hid (coveredGroup ins[k].name ins[k].ing ins[k].ba ins[k].bn ins[k].bc s1 k1 g1 wr (grs_below H1.out hbel) l1)
      clear hs hbel
      cases x1 : g1.any (hitG ins[k].name) with
      | true =>
        have HQ : Hid (qG g1 g2 ins[k] = false) := by show _ = _; simp only [qG, x1]; rfl
        rw [x1] at HC1
        clear x1
        go_wp2_with (go_at_call 21; refine HC1.out.mono ?_; rintro e w1 ⟨rfl, hb2⟩)
        refine ⟨⟨k + 1, m, by go_num, rfl, by omega, by omega, ?_, HB.out.trans (hb2.mono HB.out.size)⟩, by simp [intOf]; omega⟩
        exact HM.out.trans (skip_filter _ _ _ hlt HQ.out)
      | false =>
        have X1 := hid x1
        rw [x1] at HC1
        clear x1
        go_wp2_with fail
        refine HC1.out.mono ?_
        rintro e w1 ⟨rfl, hb2⟩
        have hbw1 : Below w.heap.size w w1 := HB.out.trans (hb2.mono HB.out.size)
        have HB1 := hid hbw1
        have HC2 := hid (coveredGroup ins[k].name ins[k].ing ins[k].ba ins[k].bn ins[k].bc s2 k2 g2 w1 (grs_below H2.out hbw1) l2)
        have d0 := (hb2.cell (p := ⟨b, off + k * 3, none⟩) hb1).trans c0
        have d1 := (hb2.cell (p := ⟨b, off + k * 3 + 1, none⟩) hb1).trans c1
        have d2 := (hb2.cell (p := ⟨b, off + k * 3 + 2, none⟩) hb1).trans c2
        have hb1' : b < w1.heap.size := Nat.lt_of_lt_of_le hb1 hb2.size
        clear hbw1 hb2 HC1 c0 c1 c2
        cases x2 : g2.any (hitG ins[k].name) with
        | true =>
          have HQ : Hid (qG g1 g2 ins[k] = false) := by show _ = _; simp only [qG, X1.out, x2]; rfl
          rw [x2] at HC2
          clear x2
          go_wp2_with (go_at_call 21; refine HC2.out.mono ?_; rintro e w2 ⟨rfl, hb2⟩)
          refine ⟨⟨k + 1, m, by go_num, rfl, by omega, by omega, ?_, HB1.out.trans (hb2.mono HB1.out.size)⟩, by simp [intOf]; omega⟩
          exact HM.out.trans (skip_filter _ _ _ hlt HQ.out)
        | false =>
          have HQ : Hid (qG g1 g2 ins[k] = true) := by show _ = _; simp only [qG, X1.out, x2]; rfl
          rw [x2] at HC2
          clear x2
          obtain ⟨hmr, hce⟩ := next_con CON.out hlt HQ.out
          rw [← HM.out] at hmr
          have hce2 : con rs[m] = con ins[k] := by
            have e : rs[m] = rs[((ins.take k).filter (qG g1 g2)).length]'(by rw [← HM.out]; exact hmr) := by congr 1
            rw [e]; exact hce
          simp only [con, Prod.mk.injEq] at hce2
          obtain ⟨en, ei, eb⟩ := hce2
          have NX := hid (nth_filter (qG g1 g2) ins k hlt HQ.out).2
          clear hce
          go_wp2_with fail
          refine HC2.out.mono ?_
          rintro e w2 ⟨rfl, hb3⟩
          have hbw2 : Below w.heap.size w w2 := HB1.out.trans (hb3.mono HB1.out.size)
          have HB2 := hid hbw2
          have hb2' : b < w2.heap.size := Nat.lt_of_lt_of_le hb1' hb3.size
          obtain ⟨rb, ro, hrb, hrl2, hrs⟩ := (HR.out.below hbw2 (Nat.le_refl _)).pos (by omega)
          obtain ⟨r0, r1, r2⟩ := hrs m hmr
          have f0 := (hb3.cell (p := ⟨b, off + k * 3, none⟩) hb1').trans d0
          have f1 := (hb3.cell (p := ⟨b, off + k * 3 + 1, none⟩) hb1').trans d1
          have f2 := (hb3.cell (p := ⟨b, off + k * 3 + 2, none⟩) hb1').trans d2
          rw [en] at r0
          rw [ei] at r1
          have hga := (HR.out.good rs[m] (List.getElem_mem hmr)).below hbw2 (Nat.le_refl _)
          rw [eb] at hga
          have hgb := (HI.out.good ins[k] (List.getElem_mem hlt)).below hbw2 (Nat.le_refl _)
          have HS := hid (sameModel ins[k].name ins[k].ing rs[m].ba ins[k].ba rs[m].bn ins[k].bn rs[m].bc ins[k].bc ins[k].by_ w2.drew hga hgb (SM.out ins[k] (List.getElem_mem hlt)).2.2)
          subst hrb
          clear hrs hga hgb en ei eb d0 d1 d2 hbw2 hb3 HC2
          have hG1 : decide ((rs.length : Int) ≤ (m : Int)) = false := by simp; omega
          have hG2 : (m : Int) < (rs.length : Int) := by omega
          have hG3 : ¬ rs.length ≤ m := by omega
          go_wp2_with fail
          go_region_held3 (fun w' => w'.cell? ⟨rb, ro + m * 3, none⟩ = some (.string ins[k].name) ∧ w'.cell? ⟨rb, ro + m * 3 + 1, none⟩ = some (.string ins[k].ing) ∧ w'.cell? ⟨rb, ro + m * 3 + 2, none⟩ = some (.slice rs[m].ba rs[m].bn rs[m].bc) ∧ w'.cell? ⟨b, off + k * 3, none⟩ = some (.string ins[k].name) ∧ w'.cell? ⟨b, off + k * 3 + 1, none⟩ = some (.string ins[k].ing) ∧ w'.cell? ⟨b, off + k * 3 + 2, none⟩ = some (.slice ins[k].ba ins[k].bn ins[k].bc)) (go_keep)
            ((go_at_call 23; refine HS.out.mono ?_; rintro e w3 ⟨rfl, hb4⟩; have z0 := (hb4.cell (p := ⟨rb, ro + m * 3, none⟩) hrl2).trans r0; have z1 := (hb4.cell (p := ⟨rb, ro + m * 3 + 1, none⟩) hrl2).trans r1; have z2 := (hb4.cell (p := ⟨rb, ro + m * 3 + 2, none⟩) hrl2).trans r2; have y0 := (hb4.cell (p := ⟨b, off + k * 3, none⟩) hb2').trans f0; have y1 := (hb4.cell (p := ⟨b, off + k * 3 + 1, none⟩) hb2').trans f1; have y2 := (hb4.cell (p := ⟨b, off + k * 3 + 2, none⟩) hb2').trans f2))
          all_goals
            go_wp2
            refine ⟨⟨k + 1, m + 1, by go_num, by go_num, by omega, by omega, ?_, HB2.out.trans ((undrew hb4).mono HB2.out.size)⟩, by simp [intOf]; omega⟩
            show m + 1 = _
            rw [← NX.out, HM.out]
    · obtain rfl : k = ins.length := by omega
      have hfin : m = rs.length := by
        have h1 := congrArg List.length CON.out
        rw [List.length_map, List.length_map] at h1
        rw [h1, HM.out, List.take_length]
      have hq : ((m : Int) == (rs.length : Int)) = true := by rw [hfin]; exact beq_self_eq_true _
      clear hfin
      go_wp2
      go_ret
      exact ⟨rfl, HB.out⟩

set_option maxHeartbeats 1000000 in
theorem concatEq (sw sl sr : Option Addr) (cw cl cr : Nat) (ws ls rs : List El) (w : World) (hW : Sl w sw ws) (hL : Sl w sl ls) (hR : Sl w sr rs) (lL : ls.length ≤ 1048576) (lR : rs.length ≤ 1048576) (hsm : ∀ e ∈ ws, lenBy e.by_)
    (hcon : ws.map con = ls.map con ++ rs.map con) :
    Calls Try.prog 15 #[.slice sw ws.length cw, .slice sl ls.length cl, .slice sr rs.length cr] w fun e w' => e = .returned (.bool true) ∧ Below w.heap.size w w' := by
  have hln : ws.length = ls.length + rs.length := by have := congrArg List.length hcon; simpa using this
  have hq : ((ws.length : Int) != (ls.length : Int) + (rs.length : Int)) = false := by rw [bne_eq_false_iff_eq]; omega
  have LN := hid hln
  have lW : ws.length ≤ 2097152 := by omega
  have lW1 : ls.length ≤ ws.length := by omega
  have CON := hid hcon
  have HW := hid hW
  have HL := hid hL
  have HR := hid hR
  have SM := hid hsm
  clear hcon hW hL hR hsm hln
  go_enter Try.func15, Try.ntmps15
  go_wp2
  go_loopw [7] (fun s7 wr => ∃ (k : Nat), s7 = .int .i64 k ∧ k ≤ ls.length ∧ Below w.heap.size w wr) (fun s7 _ => ls.length - (intOf s7).toNat)
  case atStart => exact ⟨0, rfl, Nat.zero_le _, Below.refl _ _⟩
  case round =>
    obtain ⟨k, rfl, hk, hbel⟩ := hrel
    have HB := hid hbel
    by_cases hlt : k < ls.length
    · have hwk : k < ws.length := by omega
      have hce : con ws[k] = con ls[k] := by
        have h := congrArg (fun l => l[k]?) CON.out
        simp only [List.getElem?_map, List.getElem?_append_left (show k < (ls.map con).length by simpa using hlt), List.getElem?_eq_getElem hlt, List.getElem?_eq_getElem hwk, Option.map_some] at h
        exact Option.some.inj h
      simp only [con, Prod.mk.injEq] at hce
      obtain ⟨en, ei, eb⟩ := hce
      obtain ⟨b1, o1, hs1, hl1, hc1⟩ := (HW.out.below hbel (Nat.le_refl _)).pos (by omega)
      obtain ⟨b2, o2, hs2, hl2, hc2⟩ := (HL.out.below hbel (Nat.le_refl _)).pos (by omega)
      obtain ⟨r0, r1, r2⟩ := hc1 (k) hwk
      obtain ⟨f0, f1, f2⟩ := hc2 k hlt
      rw [en] at r0
      rw [ei] at r1
      have hga := (HW.out.good ws[k] (List.getElem_mem hwk)).below hbel (Nat.le_refl _)
      have hlb := SM.out ws[k] (List.getElem_mem hwk)
      rw [eb] at hga hlb
      have hgb := (HL.out.good ls[k] (List.getElem_mem hlt)).below hbel (Nat.le_refl _)
      have HS := hid (sameSubj ls[k].name ls[k].ing ws[k].ba ls[k].ba ws[k].bn ls[k].bn ws[k].bc ls[k].bc ls[k].by_ wr.drew hga hgb hlb)
      subst hs1
      subst hs2
      clear hc1 hc2 hga hgb hlb en ei eb hbel
      have hI1 : (k : Int) < (ls.length : Int) := by omega
      have hI2 : (k : Int) < (ws.length : Int) := by omega
      go_wp2
      go_region_held3 (fun w' => w'.cell? ⟨b1, o1 + k * 3, none⟩ = some (.string ls[k].name) ∧ w'.cell? ⟨b1, o1 + k * 3 + 1, none⟩ = some (.string ls[k].ing) ∧ w'.cell? ⟨b1, o1 + k * 3 + 2, none⟩ = some (.slice ws[k].ba ws[k].bn ws[k].bc) ∧ w'.cell? ⟨b2, o2 + k * 3, none⟩ = some (.string ls[k].name) ∧ w'.cell? ⟨b2, o2 + k * 3 + 1, none⟩ = some (.string ls[k].ing) ∧ w'.cell? ⟨b2, o2 + k * 3 + 2, none⟩ = some (.slice ls[k].ba ls[k].bn ls[k].bc)) (go_keep)
        ((go_at_call 24; refine HS.out.mono ?_; rintro e w3 ⟨rfl, hb4⟩; have z0 := (hb4.cell (p := ⟨b1, o1 + k * 3, none⟩) hl1).trans r0; have z1 := (hb4.cell (p := ⟨b1, o1 + k * 3 + 1, none⟩) hl1).trans r1; have z2 := (hb4.cell (p := ⟨b1, o1 + k * 3 + 2, none⟩) hl1).trans r2; have y0 := (hb4.cell (p := ⟨b2, o2 + k * 3, none⟩) hl2).trans f0; have y1 := (hb4.cell (p := ⟨b2, o2 + k * 3 + 1, none⟩) hl2).trans f1; have y2 := (hb4.cell (p := ⟨b2, o2 + k * 3 + 2, none⟩) hl2).trans f2))
      all_goals
        go_wp2
        exact ⟨⟨k + 1, by go_num, by omega, HB.out.trans ((undrew hb4).mono HB.out.size)⟩, by simp [intOf]; omega⟩
    · obtain rfl : k = ls.length := by omega
      clear hbel
      go_wp2
      go_loopw [8] (fun s8 wr2 => ∃ (k : Nat), s8 = .int .i64 k ∧ k ≤ rs.length ∧ Below w.heap.size w wr2) (fun s8 _ => rs.length - (intOf s8).toNat)
      case atStart => exact ⟨0, rfl, Nat.zero_le _, HB.out⟩
      case round =>
        clear HB
        obtain ⟨k, rfl, hk, hbel⟩ := hrel
        have HB := hid hbel
        by_cases hlt : k < rs.length
        · have hwk : ls.length + k < ws.length := by rw [LN.out]; omega
          have hce : con ws[ls.length + k] = con rs[k] := by
            have h := congrArg (fun l => l[ls.length + k]?) CON.out
            simp only [List.getElem?_map, List.getElem?_append_right (show (ls.map con).length ≤ ls.length + k by simp), List.length_map, Nat.add_sub_cancel_left, List.getElem?_eq_getElem hlt, List.getElem?_eq_getElem hwk, Option.map_some] at h
            exact Option.some.inj h
          simp only [con, Prod.mk.injEq] at hce
          obtain ⟨en, ei, eb⟩ := hce
          obtain ⟨b1, o1, hs1, hl1, hc1⟩ := (HW.out.below hbel (Nat.le_refl _)).pos (by omega)
          obtain ⟨b2, o2, hs2, hl2, hc2⟩ := (HR.out.below hbel (Nat.le_refl _)).pos (by omega)
          obtain ⟨r0, r1, r2⟩ := hc1 (ls.length + k) hwk
          obtain ⟨f0, f1, f2⟩ := hc2 k hlt
          rw [en] at r0
          rw [ei] at r1
          have hga := (HW.out.good ws[ls.length + k] (List.getElem_mem hwk)).below hbel (Nat.le_refl _)
          have hlb := SM.out ws[ls.length + k] (List.getElem_mem hwk)
          rw [eb] at hga hlb
          have hgb := (HR.out.good rs[k] (List.getElem_mem hlt)).below hbel (Nat.le_refl _)
          have HS := hid (sameSubj rs[k].name rs[k].ing ws[ls.length + k].ba rs[k].ba ws[ls.length + k].bn rs[k].bn ws[ls.length + k].bc rs[k].bc rs[k].by_ wr.drew hga hgb hlb)
          subst hs1
          subst hs2
          clear hc1 hc2 hga hgb hlb en ei eb hbel
          have hI1 : (k : Int) < (rs.length : Int) := by omega
          have hI2 : (ls.length : Int) + (k : Int) < (ws.length : Int) := by omega
          have hI3 : (0 : Int) ≤ (ls.length : Int) + (k : Int) := by omega
          have htn : ((ls.length : Int) + (k : Int)).toNat = ls.length + k := by omega
          have hwp : IntKind.i64.wrap ((ls.length : Int) + (k : Int)) = (ls.length : Int) + (k : Int) := by rw [IntKind.wrap_i64]; omega
          go_wp2
          go_region_held3 (fun w' => w'.cell? ⟨b1, o1 + (ls.length + k) * 3, none⟩ = some (.string rs[k].name) ∧ w'.cell? ⟨b1, o1 + (ls.length + k) * 3 + 1, none⟩ = some (.string rs[k].ing) ∧ w'.cell? ⟨b1, o1 + (ls.length + k) * 3 + 2, none⟩ = some (.slice ws[ls.length + k].ba ws[ls.length + k].bn ws[ls.length + k].bc) ∧ w'.cell? ⟨b2, o2 + k * 3, none⟩ = some (.string rs[k].name) ∧ w'.cell? ⟨b2, o2 + k * 3 + 1, none⟩ = some (.string rs[k].ing) ∧ w'.cell? ⟨b2, o2 + k * 3 + 2, none⟩ = some (.slice rs[k].ba rs[k].bn rs[k].bc)) (go_keep)
            ((go_at_call 24; refine HS.out.mono ?_; rintro e w3 ⟨rfl, hb4⟩; have z0 := (hb4.cell (p := ⟨b1, o1 + (ls.length + k) * 3, none⟩) hl1).trans r0; have z1 := (hb4.cell (p := ⟨b1, o1 + (ls.length + k) * 3 + 1, none⟩) hl1).trans r1; have z2 := (hb4.cell (p := ⟨b1, o1 + (ls.length + k) * 3 + 2, none⟩) hl1).trans r2; have y0 := (hb4.cell (p := ⟨b2, o2 + k * 3, none⟩) hl2).trans f0; have y1 := (hb4.cell (p := ⟨b2, o2 + k * 3 + 1, none⟩) hl2).trans f1; have y2 := (hb4.cell (p := ⟨b2, o2 + k * 3 + 2, none⟩) hl2).trans f2))
          all_goals
            go_wp2
            exact ⟨⟨k + 1, by go_num, by omega, HB.out.trans ((undrew hb4).mono HB.out.size)⟩, by simp [intOf]; omega⟩
        · obtain rfl : k = rs.length := by omega
          go_wp2
          go_ret
          exact ⟨rfl, HB.out⟩
end Go.Proofs.Qxb6615619aR
