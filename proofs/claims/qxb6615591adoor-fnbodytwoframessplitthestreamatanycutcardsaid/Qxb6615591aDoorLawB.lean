/-
  Seat b6615591aD. FnBodyTwoFramesSplitTheStreamAtAnyCut: the walk.
-/
import Derived.Test.Qxb6615591aDoorG
namespace Go.Proofs.Qxb6615591aDoor
open Go.RowKit

theorem newPair_gen (B : Nat) (typ1 sz1 typ2 sz2 : Int) (so : Option Addr) (fb : Nat) (zs : List Int) (w : World) (h : Own B w so fb zs) :
    Calls Tryd.prog 13 #[.int .u8 typ1, .int .i64 sz1, .int .u8 typ2, .int .i64 sz2, .slice so zs.length zs.length] w fun e w' => e = .returned (.tuple #[.pointer (some ⟨w.heap.size + 1, 0, none⟩), .pointer (some ⟨w.heap.size + 2, 0, none⟩)]) ∧
      w'.heap[w.heap.size + 1]? = some (.cells (inc typ1 sz1 w.heap.size (.slice none 0 0) .nilIface false) 36 (0, 0)) ∧ w'.heap[w.heap.size + 2]? = some (.cells (inc typ2 sz2 w.heap.size (.slice none 0 0) .nilIface false) 36 (0, 0)) ∧
      Feed w' w.heap.size so fb zs 0 ∧ Below w.heap.size w w' ∧ w.heap.size + 2 < w'.heap.size := by
  refine (newPair_any typ1 sz1 typ2 sz2 so zs.length zs.length w).mono ?_
  rintro e w' ⟨rfl, rfl⟩
  have hb1 : Below w.heap.size w (w.alloc (.cells #[.slice so zs.length zs.length, .int .i64 0, .int .i64 (-1)] 47)) := (Below.refl _ _).alloc (Nat.le_refl _) _
  have hb2 := hb1.alloc (by simp) (.cells (inc typ1 sz1 w.heap.size (.slice none 0 0) .nilIface false) 36)
  have hb3 := hb2.alloc (by simp; omega) (.cells (inc typ2 sz2 w.heap.size (.slice none 0 0) .nilIface false) 36)
  refine ⟨rfl, ?_, ?_, ?_, hb3, by simp⟩
  · rw [Below.heap_alloc _ _ _ (by simp)]
    have := heap_new (w.alloc (.cells #[.slice so zs.length zs.length, .int .i64 0, .int .i64 (-1)] 47)) (.cells (inc typ1 sz1 w.heap.size (.slice none 0 0) .nilIface false) 36)
    simpa using this
  · have := heap_new ((w.alloc (.cells #[.slice so zs.length zs.length, .int .i64 0, .int .i64 (-1)] 47)).alloc (.cells (inc typ1 sz1 w.heap.size (.slice none 0 0) .nilIface false) 36)) (.cells (inc typ2 sz2 w.heap.size (.slice none 0 0) .nilIface false) 36)
    simpa using this
  · refine ⟨⟨-1, ?_⟩, Nat.zero_le _, h.len, fun hp => ?_⟩
    · rw [Below.heap_alloc _ _ _ (by simp; omega), Below.heap_alloc _ _ _ (by simp)]
      exact heap_new _ _
    · obtain ⟨h1, h2⟩ := h.pos hp
      have hl := (Array.getElem?_eq_some_iff.1 h2).1
      exact ⟨h1, by omega, (hb3.block _ hl).trans h2⟩

set_option maxHeartbeats 1000000 in
theorem lawB_ok (typ1 : Int) (sz1 : Nat) (typ2 : Int) (sz2 : Nat) (so : Option Addr) (c : Nat) (zs : List Int) (w : World) (hD : Src w so c zs) (hsz1 : sz1 ≤ 65536) (hsz2 : sz2 ≤ 65536) (hle1 : sz1 ≤ zs.length) (hle2 : sz1 + sz2 ≤ zs.length) :
    Calls Tryd.prog 4 #[.int .u8 typ1, .int .i64 sz1, .int .u8 typ2, .int .i64 sz2, .slice so zs.length c] w fun e w' => e = .returned (.bool true) ∧ Below w.heap.size w w' := by
  have hlen := hD.len
  have k1 : ¬ (1048576 : Int) < (zs.length : Int) := by omega
  have k2 : ¬ (65536 : Int) < (sz1 : Int) := by omega
  have k3 : ¬ (sz1 : Int) < 0 := by omega
  have k4 : ¬ (65536 : Int) < (sz2 : Int) := by omega
  have k5 : ¬ (sz2 : Int) < 0 := by omega
  have hq := fun w a n => Lib.run_eql_slice_nil (P := Tryd.prog) w 22 5 (some a) n n 0 0 Tryd.underlying22
  have hqn := fun w a n => run_neq_slice_nil_any (P := Tryd.prog) w 22 5 (some a) n n 0 0 Tryd.underlying22
  have HD := hid hD
  clear hD
  go_enter Tryd.func4, Tryd.ntmps4
  go_wp2_with (go_at_call 12; refine (guard12 _ _ _ _ _ _ _ _ hlen).mono ?_; rintro e w' ⟨rfl, hw⟩; obtain rfl := hw.symm)
  refine (clone_gen so c zs w HD.out).mono ?_
  rintro e w1 ⟨ds, rfl, hO1, hb1, hz1⟩
  have O1 := hid hO1
  clear hO1 hz1
  go_wp2_with fail
  refine (clone_gen ds zs.length zs w1 O1.out.src).mono ?_
  rintro e w2 ⟨fs, rfl, hO2, hb2, hz2⟩
  have O2 := hid hO2
  clear hO2 hz2
  go_wp2_with fail
  refine (newPair_gen _ typ1 sz1 typ2 sz2 fs w1.heap.size zs w2 O2.out).mono ?_
  rintro e w3 ⟨rfl, hI3, hJ3, hF3, hb3, hz3⟩
  have I3 := hid hI3
  have J3 := hid hJ3
  have F3 := hid hF3
  clear hI3 hF3 hJ3
  have B1 : w.heap.size ≤ w1.heap.size := hb1.size
  have B2 : w1.heap.size ≤ w2.heap.size := hb2.size
  obtain ⟨rb, hrb⟩ : ∃ rb, w2.heap.size = rb := ⟨_, rfl⟩
  rw [hrb] at I3 J3 F3 hb3 hz3 B2 ⊢
  clear hrb
  go_wp2_with fail
  refine (body_ok (rb + 1) typ1 rb fs w1.heap.size zs 0 sz1 false w3 I3.out (by omega) (by omega) F3.out (by omega) hsz1).mono ?_
  rintro e w4 ⟨rfl, hb4, _, hF4, hK4, hz4⟩
  rw [Nat.zero_add] at hF4
  have J4 := hid ((hK4.block (rb + 2) (by omega) (by omega) (by omega)).trans J3.out)
  obtain ⟨bb, hbb⟩ : ∃ bb, w3.heap.size = bb := ⟨_, rfl⟩
  rw [hbb] at hb4 hK4 hz4 hz3 ⊢
  have P4 := hid hb4
  have F4 := hid hF4
  clear hF4 hb4 hbb I3 F3 J3
  go_wp2_with fail
  refine (unread_yes _ _ _ _ _ w4 J4.out).mono ?_
  rintro e w' ⟨rfl, hw⟩
  obtain rfl := hw.symm
  clear hw
  go_wp2_with fail
  refine (body_ok (rb + 2) typ2 rb fs w1.heap.size zs sz1 sz2 false w4 J4.out (by omega) (by omega) F4.out hle2 hsz2).mono ?_
  rintro e w5 ⟨rfl, hb5, _, _, hK5, hz5⟩
  obtain ⟨b2, hb2'⟩ : ∃ b2, w4.heap.size = b2 := ⟨_, rfl⟩
  rw [hb2'] at hb5 hK5 hz5 hz4 ⊢
  clear hb2' F4 J4
  have D5 : Own w.heap.size w5 ds w.heap.size zs := O1.out.keep' fun hlt => by
    rw [hK5.block _ (by omega) (by omega) (by omega), hK4.block _ (by omega) (by omega) (by omega), hb3.block _ (by omega), hb2.block _ hlt]
  have P5 : w5.heap[bb]? = some (.cells (bytesA ((zs.drop 0).take sz1)) 5 (0, 0)) := (hK5.block bb (by omega) (by omega) (by omega)).trans P4.out
  have HS1 := hid (same_part w.heap.size bb w.heap.size ds zs.length zs 0 sz1 w5 P5 D5 (by omega) sz1 ds (fun _ h => h))
  have HS2 := hid (fun q cc da hda => same_part w.heap.size b2 w.heap.size ds cc zs sz1 sz2 (w5.drewN q) hb5 ⟨D5.len, D5.nil, D5.base, D5.pos⟩ hle2 sz2 da hda)
  have FIN : Hid (Below w.heap.size w w5) := hid ((((hb1.trans (hb2.mono B1)).trans (hb3.mono (by omega))).trans (hK4.base (by omega) (by omega) (by omega))).trans (hK5.base (by omega) (by omega) (by omega)))
  clear hb1 hb2 hb3 hK4 hK5 D5 O1 O2 P4 P5 HD hb5
  go_wp2_with fail
  refine HS1.out.mono ?_
  rintro e w6 ⟨rfl, q6, hw⟩
  subst hw
  go_wp2_with fail
  · refine (HS2.out q6 _ _ (fun hp _ => by omega)).mono ?_
    rintro e w7 ⟨rfl, q7, hw⟩
    rw [World.drewN_drewN] at hw
    subst hw
    go_wp2
    go_ret
    refine ⟨rfl, ?_⟩
    have := FIN.out
    exact ⟨this.os, this.tape, this.output, this.size, this.block⟩
  · refine (HS2.out q6 _ _ (fun _ h => by rw [h]; simp [add_at])).mono ?_
    rintro e w7 ⟨rfl, q7, hw⟩
    rw [World.drewN_drewN] at hw
    subst hw
    go_wp2
    go_ret
    refine ⟨rfl, ?_⟩
    have := FIN.out
    exact ⟨this.os, this.tape, this.output, this.size, this.block⟩

set_option maxHeartbeats 1000000 in
theorem lawB_err2 (typ1 : Int) (sz1 : Nat) (typ2 : Int) (sz2 : Nat) (so : Option Addr) (c : Nat) (zs : List Int) (w : World) (hD : Src w so c zs) (hsz1 : sz1 ≤ 65536) (hsz2 : sz2 ≤ 65536) (hle1 : sz1 ≤ zs.length) (hle2 : zs.length < sz1 + sz2) (a0 a1 : Addr) (hE : Errs w.heap.size a0 a1 w) :
    Calls Tryd.prog 4 #[.int .u8 typ1, .int .i64 sz1, .int .u8 typ2, .int .i64 sz2, .slice so zs.length c] w fun e w' => e = .returned (.bool true) ∧ Below w.heap.size w w' := by
  have hlen := hD.len
  have k1 : ¬ (1048576 : Int) < (zs.length : Int) := by omega
  have k2 : ¬ (65536 : Int) < (sz1 : Int) := by omega
  have k3 : ¬ (sz1 : Int) < 0 := by omega
  have k4 : ¬ (65536 : Int) < (sz2 : Int) := by omega
  have k5 : ¬ (sz2 : Int) < 0 := by omega
  have hq := fun w a n => Lib.run_eql_slice_nil (P := Tryd.prog) w 22 5 (some a) n n 0 0 Tryd.underlying22
  have k6 : ¬ (sz2 : Int) ≤ (zs.length : Int) - (sz1 : Int) := by omega
  have hq0 := fun w => Lib.run_eql_slice_nil (P := Tryd.prog) w 22 5 none 0 0 0 0 Tryd.underlying22
  have HD := hid hD
  have HE := hid hE
  clear hD hE
  go_enter Tryd.func4, Tryd.ntmps4
  go_wp2_with (go_at_call 12; refine (guard12 _ _ _ _ _ _ _ _ hlen).mono ?_; rintro e w' ⟨rfl, hw⟩; obtain rfl := hw.symm)
  refine (clone_gen so c zs w HD.out).mono ?_
  rintro e w1 ⟨ds, rfl, hO1, hb1, hz1⟩
  have O1 := hid hO1
  clear hO1 hz1
  go_wp2_with fail
  refine (clone_gen ds zs.length zs w1 O1.out.src).mono ?_
  rintro e w2 ⟨fs, rfl, hO2, hb2, hz2⟩
  have O2 := hid hO2
  clear hO2 hz2
  go_wp2_with fail
  refine (newPair_gen _ typ1 sz1 typ2 sz2 fs w1.heap.size zs w2 O2.out).mono ?_
  rintro e w3 ⟨rfl, hI3, hJ3, hF3, hb3, hz3⟩
  have I3 := hid hI3
  have J3 := hid hJ3
  have F3 := hid hF3
  clear hI3 hF3 hJ3
  have B1 : w.heap.size ≤ w1.heap.size := hb1.size
  have B2 : w1.heap.size ≤ w2.heap.size := hb2.size
  obtain ⟨rb, hrb⟩ : ∃ rb, w2.heap.size = rb := ⟨_, rfl⟩
  rw [hrb] at I3 J3 F3 hb3 hz3 B2 ⊢
  clear hrb
  go_wp2_with fail
  refine (body_ok (rb + 1) typ1 rb fs w1.heap.size zs 0 sz1 false w3 I3.out (by omega) (by omega) F3.out (by omega) hsz1).mono ?_
  rintro e w4 ⟨rfl, hb4, _, hF4, hK4, hz4⟩
  rw [Nat.zero_add] at hF4
  have J4 := hid ((hK4.block (rb + 2) (by omega) (by omega) (by omega)).trans J3.out)
  obtain ⟨bb, hbb⟩ : ∃ bb, w3.heap.size = bb := ⟨_, rfl⟩
  rw [hbb] at hb4 hK4 hz4 hz3 ⊢
  have P4 := hid hb4
  have F4 := hid hF4
  clear hF4 hb4 hbb I3 F3 J3
  go_wp2_with fail
  refine (unread_yes _ _ _ _ _ w4 J4.out).mono ?_
  rintro e w' ⟨rfl, hw⟩
  obtain rfl := hw.symm
  clear hw
  go_wp2_with fail
  have hE4 : Errs w.heap.size a0 a1 w4 := HE.out.below (((hb1.trans (hb2.mono B1)).trans (hb3.mono (by omega))).trans (hK4.base (by omega) (by omega) (by omega)))
  refine (body_err w.heap.size a0 a1 (rb + 2) typ2 rb fs w1.heap.size zs sz1 sz2 false w4 J4.out (by omega) (by omega) F4.out hE4 (by omega) hle2 hsz2).mono ?_
  rintro e w5 ⟨rfl, _, _, hK5, hz5⟩
  clear F4 J4
  have D5 : Own w.heap.size w5 ds w.heap.size zs := O1.out.keep' fun hlt => by
    rw [hK5.block _ (by omega) (by omega) (by omega), hK4.block _ (by omega) (by omega) (by omega), hb3.block _ (by omega), hb2.block _ hlt]
  have P5 : w5.heap[bb]? = some (.cells (bytesA ((zs.drop 0).take sz1)) 5 (0, 0)) := (hK5.block bb (by omega) (by omega) (by omega)).trans P4.out
  have HS1 := hid (same_part w.heap.size bb w.heap.size ds zs.length zs 0 sz1 w5 P5 D5 (by omega) sz1 ds (fun _ h => h))
  have FIN : Hid (Below w.heap.size w w5) := hid ((((hb1.trans (hb2.mono B1)).trans (hb3.mono (by omega))).trans (hK4.base (by omega) (by omega) (by omega))).trans (hK5.base (by omega) (by omega) (by omega)))
  clear hb1 hb2 hb3 hK4 hK5 D5 O1 O2 P4 P5 HD
  go_wp2_with fail
  refine HS1.out.mono ?_
  rintro e w6 ⟨rfl, q6, hw⟩
  subst hw
  go_wp2
  go_ret
  refine ⟨rfl, ?_⟩
  have := FIN.out
  exact ⟨this.os, this.tape, this.output, this.size, this.block⟩

set_option maxHeartbeats 1000000 in
theorem lawB_err1 (typ1 : Int) (sz1 : Nat) (typ2 : Int) (sz2 : Nat) (so : Option Addr) (c : Nat) (zs : List Int) (w : World) (hD : Src w so c zs) (hsz1 : sz1 ≤ 65536) (hsz2 : sz2 ≤ 65536) (hle1 : zs.length < sz1) (hpos : 0 < sz2) (a0 a1 : Addr) (hE : Errs w.heap.size a0 a1 w) :
    Calls Tryd.prog 4 #[.int .u8 typ1, .int .i64 sz1, .int .u8 typ2, .int .i64 sz2, .slice so zs.length c] w fun e w' => e = .returned (.bool true) ∧ Below w.heap.size w w' := by
  have hlen := hD.len
  have k1 : ¬ (1048576 : Int) < (zs.length : Int) := by omega
  have k2 : ¬ (65536 : Int) < (sz1 : Int) := by omega
  have k3 : ¬ (sz1 : Int) < 0 := by omega
  have k4 : ¬ (65536 : Int) < (sz2 : Int) := by omega
  have k5 : ¬ (sz2 : Int) < 0 := by omega
  have hqn0 := fun w => run_neq_slice_nil_any (P := Tryd.prog) w 22 5 none 0 0 0 0 Tryd.underlying22
  have k6 : ¬ (sz1 : Int) ≤ (zs.length : Int) := by omega
  have k7 : ((sz2 : Int) == 0) = false := by simp; omega
  have hq0 := fun w => Lib.run_eql_slice_nil (P := Tryd.prog) w 22 5 none 0 0 0 0 Tryd.underlying22
  have HD := hid hD
  have HE := hid hE
  clear hD hE
  go_enter Tryd.func4, Tryd.ntmps4
  go_wp2_with (go_at_call 12; refine (guard12 _ _ _ _ _ _ _ _ hlen).mono ?_; rintro e w' ⟨rfl, hw⟩; obtain rfl := hw.symm)
  refine (clone_gen so c zs w HD.out).mono ?_
  rintro e w1 ⟨ds, rfl, hO1, hb1, hz1⟩
  have O1 := hid hO1
  clear hO1 hz1
  go_wp2_with fail
  refine (clone_gen ds zs.length zs w1 O1.out.src).mono ?_
  rintro e w2 ⟨fs, rfl, hO2, hb2, hz2⟩
  have O2 := hid hO2
  clear hO2 hz2
  go_wp2_with fail
  refine (newPair_gen _ typ1 sz1 typ2 sz2 fs w1.heap.size zs w2 O2.out).mono ?_
  rintro e w3 ⟨rfl, hI3, hJ3, hF3, hb3, hz3⟩
  have I3 := hid hI3
  have J3 := hid hJ3
  have F3 := hid hF3
  clear hI3 hF3 hJ3
  have B1 : w.heap.size ≤ w1.heap.size := hb1.size
  have B2 : w1.heap.size ≤ w2.heap.size := hb2.size
  obtain ⟨rb, hrb⟩ : ∃ rb, w2.heap.size = rb := ⟨_, rfl⟩
  rw [hrb] at I3 J3 F3 hb3 hz3 B2 ⊢
  clear hrb
  go_wp2_with fail
  have hE3 : Errs w.heap.size a0 a1 w3 := HE.out.below ((hb1.trans (hb2.mono B1)).trans (hb3.mono (by omega)))
  refine (body_err w.heap.size a0 a1 (rb + 1) typ1 rb fs w1.heap.size zs 0 sz1 false w3 I3.out (by omega) (by omega) F3.out hE3 (by omega) (by omega) hsz1).mono ?_
  rintro e w4 ⟨rfl, _, hF4, hK4, hz4⟩
  have J4 := hid ((hK4.block (rb + 2) (by omega) (by omega) (by omega)).trans J3.out)
  have F4 := hid hF4
  have hE4 : Errs w.heap.size a0 a1 w4 := hE3.below (hK4.base (by omega) (by omega) (by omega))
  have HE4 := hid hE4
  clear hF4 I3 F3 J3 hE3 hE4
  go_wp2_with fail
  refine (unread_yes _ _ _ _ _ w4 J4.out).mono ?_
  rintro e w' ⟨rfl, hw⟩
  obtain rfl := hw.symm
  clear hw
  go_wp2_with fail
  refine (body_err w.heap.size a0 a1 (rb + 2) typ2 rb fs w1.heap.size zs zs.length sz2 false w4 J4.out (by omega) (by omega) F4.out HE4.out (by omega) (by omega) hsz2).mono ?_
  rintro e w5 ⟨rfl, _, _, hK5, hz5⟩
  clear F4 J4
  have FIN : Hid (Below w.heap.size w w5) := hid ((((hb1.trans (hb2.mono B1)).trans (hb3.mono (by omega))).trans (hK4.base (by omega) (by omega) (by omega))).trans (hK5.base (by omega) (by omega) (by omega)))
  clear hb1 hb2 hb3 hK4 hK5 O1 O2 HD HE HE4
  go_wp2
  go_ret
  refine ⟨rfl, ?_⟩
  have := FIN.out
  exact ⟨this.os, this.tape, this.output, this.size, this.block⟩

set_option maxHeartbeats 1000000 in
theorem lawB_err0 (typ1 : Int) (sz1 : Nat) (typ2 : Int) (so : Option Addr) (c : Nat) (zs : List Int) (w : World) (hD : Src w so c zs) (hsz1 : sz1 ≤ 65536) (hle1 : zs.length < sz1) (a0 a1 : Addr) (hE : Errs w.heap.size a0 a1 w) :
    Calls Tryd.prog 4 #[.int .u8 typ1, .int .i64 sz1, .int .u8 typ2, .int .i64 0, .slice so zs.length c] w fun e w' => e = .returned (.bool true) ∧ Below w.heap.size w w' := by
  have hlen := hD.len
  have k1 : ¬ (1048576 : Int) < (zs.length : Int) := by omega
  have k2 : ¬ (65536 : Int) < (sz1 : Int) := by omega
  have k3 : ¬ (sz1 : Int) < 0 := by omega
  have hqs := fun w a => run_neq_slice_nil_any (P := Tryd.prog) w 22 5 (some a) 0 0 0 0 Tryd.underlying22
  have hqn0 := fun w => run_neq_slice_nil_any (P := Tryd.prog) w 22 5 none 0 0 0 0 Tryd.underlying22
  have k6 : ¬ (sz1 : Int) ≤ (zs.length : Int) := by omega
  have hq0 := fun w => Lib.run_eql_slice_nil (P := Tryd.prog) w 22 5 none 0 0 0 0 Tryd.underlying22
  have HD := hid hD
  have HE := hid hE
  clear hD hE
  go_enter Tryd.func4, Tryd.ntmps4
  go_wp2_with (go_at_call 12; refine (guard12 _ _ _ _ _ _ _ _ hlen).mono ?_; rintro e w' ⟨rfl, hw⟩; obtain rfl := hw.symm)
  refine (clone_gen so c zs w HD.out).mono ?_
  rintro e w1 ⟨ds, rfl, hO1, hb1, hz1⟩
  have O1 := hid hO1
  clear hO1 hz1
  go_wp2_with fail
  refine (clone_gen ds zs.length zs w1 O1.out.src).mono ?_
  rintro e w2 ⟨fs, rfl, hO2, hb2, hz2⟩
  have O2 := hid hO2
  clear hO2 hz2
  go_wp2_with fail
  refine (newPair_gen _ typ1 sz1 typ2 0 fs w1.heap.size zs w2 O2.out).mono ?_
  rintro e w3 ⟨rfl, hI3, hJ3, hF3, hb3, hz3⟩
  have I3 := hid hI3
  have J3 := hid hJ3
  have F3 := hid hF3
  clear hI3 hF3 hJ3
  have B1 : w.heap.size ≤ w1.heap.size := hb1.size
  have B2 : w1.heap.size ≤ w2.heap.size := hb2.size
  obtain ⟨rb, hrb⟩ : ∃ rb, w2.heap.size = rb := ⟨_, rfl⟩
  rw [hrb] at I3 J3 F3 hb3 hz3 B2 ⊢
  clear hrb
  go_wp2_with fail
  have hE3 : Errs w.heap.size a0 a1 w3 := HE.out.below ((hb1.trans (hb2.mono B1)).trans (hb3.mono (by omega)))
  refine (body_err w.heap.size a0 a1 (rb + 1) typ1 rb fs w1.heap.size zs 0 sz1 false w3 I3.out (by omega) (by omega) F3.out hE3 (by omega) (by omega) hsz1).mono ?_
  rintro e w4 ⟨rfl, _, hF4, hK4, hz4⟩
  have J4 := hid ((hK4.block (rb + 2) (by omega) (by omega) (by omega)).trans J3.out)
  have F4 := hid hF4
  have hE4 : Errs w.heap.size a0 a1 w4 := hE3.below (hK4.base (by omega) (by omega) (by omega))
  have HE4 := hid hE4
  clear hF4 I3 F3 J3 hE3 hE4
  go_wp2_with fail
  refine (unread_yes _ _ _ _ _ w4 J4.out).mono ?_
  rintro e w' ⟨rfl, hw⟩
  obtain rfl := hw.symm
  clear hw
  go_wp2_with fail
  refine (body_ok (rb + 2) typ2 rb fs w1.heap.size zs zs.length 0 false w4 J4.out (by omega) (by omega) F4.out (by omega) (by omega)).mono ?_
  rintro e w5 ⟨rfl, _, _, _, hK5, hz5⟩
  clear F4 J4
  have FIN : Hid (Below w.heap.size w w5) := hid ((((hb1.trans (hb2.mono B1)).trans (hb3.mono (by omega))).trans (hK4.base (by omega) (by omega) (by omega))).trans (hK5.base (by omega) (by omega) (by omega)))
  clear hb1 hb2 hb3 hK4 hK5 O1 O2 HD HE HE4
  go_wp2
  go_ret
  refine ⟨rfl, ?_⟩
  have := FIN.out
  exact ⟨this.os, this.tape, this.output, this.size, this.block⟩

set_option maxHeartbeats 400000 in
theorem lawB_long (typ sz typ2 sz2 : Int) (so : Option Addr) (n c : Nat) (w : World) (hn : 1048576 < n) :
    Calls Tryd.prog 4 #[.int .u8 typ, .int .i64 sz, .int .u8 typ2, .int .i64 sz2, .slice so n c] w fun e w' => e = .returned (.bool true) ∧ Below w.heap.size w w' := by
  go_enter Tryd.func4, Tryd.ntmps4
  go_wp2_with (go_at_call 12; refine (guard12_no _ _ _ _ _ _ _ _ hn).mono ?_; rintro e w' ⟨rfl, hw⟩; obtain rfl := hw.symm)
  go_ret
  exact ⟨rfl, Below.refl _ _⟩

set_option maxHeartbeats 400000 in
theorem lawB_out1 (typ sz typ2 sz2 : Int) (so : Option Addr) (n c : Nat) (w : World) (hn : n ≤ 1048576) (hs : sz < 0 ∨ 65536 < sz) :
    Calls Tryd.prog 4 #[.int .u8 typ, .int .i64 sz, .int .u8 typ2, .int .i64 sz2, .slice so n c] w fun e w' => e = .returned (.bool true) ∧ Below w.heap.size w w' := by
  have k1 : ¬ (1048576 : Int) < (n : Int) := by omega
  rcases hs with hs | hs
  · go_enter Tryd.func4, Tryd.ntmps4
    go_wp2_with (go_at_call 12; refine (guard12 _ _ _ _ _ _ _ _ hn).mono ?_; rintro e w' ⟨rfl, hw⟩; obtain rfl := hw.symm)
    go_ret
    exact ⟨rfl, Below.refl _ _⟩
  · have k2 : ¬ sz < 0 := by omega
    go_enter Tryd.func4, Tryd.ntmps4
    go_wp2_with (go_at_call 12; refine (guard12 _ _ _ _ _ _ _ _ hn).mono ?_; rintro e w' ⟨rfl, hw⟩; obtain rfl := hw.symm)
    go_ret
    exact ⟨rfl, Below.refl _ _⟩

set_option maxHeartbeats 400000 in
theorem lawB_out2 (typ sz typ2 sz2 : Int) (so : Option Addr) (n c : Nat) (w : World) (hn : n ≤ 1048576) (h0 : 0 ≤ sz) (h1 : sz ≤ 65536) (hs : sz2 < 0 ∨ 65536 < sz2) :
    Calls Tryd.prog 4 #[.int .u8 typ, .int .i64 sz, .int .u8 typ2, .int .i64 sz2, .slice so n c] w fun e w' => e = .returned (.bool true) ∧ Below w.heap.size w w' := by
  have k1 : ¬ (1048576 : Int) < (n : Int) := by omega
  have k3 : ¬ sz < 0 := by omega
  have k4 : ¬ 65536 < sz := by omega
  rcases hs with hs | hs
  · go_enter Tryd.func4, Tryd.ntmps4
    go_wp2_with (go_at_call 12; refine (guard12 _ _ _ _ _ _ _ _ hn).mono ?_; rintro e w' ⟨rfl, hw⟩; obtain rfl := hw.symm)
    go_ret
    exact ⟨rfl, Below.refl _ _⟩
  · have k2 : ¬ sz2 < 0 := by omega
    go_enter Tryd.func4, Tryd.ntmps4
    go_wp2_with (go_at_call 12; refine (guard12 _ _ _ _ _ _ _ _ hn).mono ?_; rintro e w' ⟨rfl, hw⟩; obtain rfl := hw.symm)
    go_ret
    exact ⟨rfl, Below.refl _ _⟩

/-- THE WALK, whatever the arguments. -/
theorem lawB (typ1 sz1 typ2 sz2 : Int) (so : Option Addr) (c : Nat) (zs : List Int) (w : World) (hD : zs.length ≤ 1048576 → Src w so c zs) (a0 a1 : Addr) (hE : Errs w.heap.size a0 a1 w) :
    Calls Tryd.prog 4 #[.int .u8 typ1, .int .i64 sz1, .int .u8 typ2, .int .i64 sz2, .slice so zs.length c] w fun e w' => e = .returned (.bool true) ∧ Below w.heap.size w w' := by
  by_cases h1 : 1048576 < zs.length
  · exact lawB_long typ1 sz1 typ2 sz2 so _ c w h1
  by_cases h2 : sz1 < 0 ∨ 65536 < sz1
  · exact lawB_out1 typ1 sz1 typ2 sz2 so _ c w (by omega) h2
  by_cases h3 : sz2 < 0 ∨ 65536 < sz2
  · exact lawB_out2 typ1 sz1 typ2 sz2 so _ c w (by omega) (by omega) (by omega) h3
  obtain ⟨n, rfl⟩ := Int.eq_ofNat_of_zero_le (show 0 ≤ sz1 by omega)
  obtain ⟨m, rfl⟩ := Int.eq_ofNat_of_zero_le (show 0 ≤ sz2 by omega)
  by_cases h4 : zs.length < n
  · by_cases h5 : 0 < m
    · exact lawB_err1 typ1 n typ2 m so c zs w (hD (by omega)) (by omega) (by omega) h4 h5 a0 a1 hE
    · obtain rfl : m = 0 := by omega
      exact lawB_err0 typ1 n typ2 so c zs w (hD (by omega)) (by omega) h4 a0 a1 hE
  by_cases h6 : zs.length < n + m
  · exact lawB_err2 typ1 n typ2 m so c zs w (hD (by omega)) (by omega) (by omega) (by omega) h6 a0 a1 hE
  · exact lawB_ok typ1 n typ2 m so c zs w (hD (by omega)) (by omega) (by omega) (by omega) (by omega)
end Go.Proofs.Qxb6615591aDoor
