/-
  Seat b6615591aD. FnBodyReadsOnceAndClearsUnread: the walk.
-/
import Derived.Test.Qxb6615591aDoorG
namespace Go.Proofs.Qxb6615591aDoor
open Go.RowKit

set_option maxHeartbeats 1000000 in
theorem lawA_ok_pos (typ : Int) (sz : Nat) (so : Option Addr) (c : Nat) (zs : List Int) (w : World) (hD : Src w so c zs) (hsz : sz ≤ 65536) (hle : sz ≤ zs.length) (hp : 0 < sz) :
    Calls Tryd.prog 3 #[.int .u8 typ, .int .i64 sz, .slice so zs.length c] w fun e w' => e = .returned (.bool true) ∧ Below w.heap.size w w' := by
  have hlen := hD.len
  have k1 : ¬ (1048576 : Int) < (zs.length : Int) := by omega
  have k2 : ¬ (65536 : Int) < (sz : Int) := by omega
  have k3 : ¬ (sz : Int) < 0 := by omega
  have k4 : (0 : Int) < (sz : Int) := by omega
  have hq := fun w a n => Lib.run_eql_slice_nil (P := Tryd.prog) w 22 5 (some a) n n 0 0 Tryd.underlying22
  have hnq := neq_ptr
  have HD := hid hD
  clear hD
  go_enter Tryd.func3, Tryd.ntmps3
  go_wp2_with (go_at_call 6; refine (guard6 _ _ _ _ _ _ hlen).mono ?_; rintro e w' ⟨rfl, hw⟩; obtain rfl := hw.symm)
  refine (clone_gen so c zs w HD.out).mono ?_
  rintro e w1 ⟨ds, rfl, hO1, hb1, hz1⟩
  have O1 := hid hO1
  clear hO1 hz1
  go_wp2_with fail
  refine (clone_gen ds zs.length zs w1 O1.out.src).mono ?_
  rintro e w2 ⟨fs, rfl, hO2, hb2, hz2⟩
  have O2 := hid hO2
  clear hO2 hz2
  go_wp2_with fail
  refine (newInc_gen _ typ sz fs w1.heap.size zs w2 O2.out).mono ?_
  rintro e w3 ⟨rfl, hI3, hF3, hb3, hz3⟩
  have I3 := hid hI3
  have F3 := hid hF3
  clear hI3 hF3
  have B1 : w.heap.size ≤ w1.heap.size := hb1.size
  have B2 : w1.heap.size ≤ w2.heap.size := hb2.size
  obtain ⟨rb, hrb⟩ : ∃ rb, w2.heap.size = rb := ⟨_, rfl⟩
  rw [hrb] at I3 F3 hb3 hz3 B2 ⊢
  clear hrb
  go_wp2_with fail
  refine (unread_yes _ _ _ _ _ w3 I3.out).mono ?_
  rintro e w' ⟨rfl, hw⟩
  obtain rfl := hw.symm
  clear hw
  go_wp2_with fail
  refine (body_ok (rb + 1) typ rb fs w1.heap.size zs 0 sz false w3 I3.out (by omega) (by omega) F3.out (by omega) hsz).mono ?_
  rintro e w4 ⟨rfl, hb4, hI4, hF4, hK4, hz4⟩
  have I4 := hid hI4
  obtain ⟨bb, hbb⟩ : ∃ bb, w3.heap.size = bb := ⟨_, rfl⟩
  rw [hbb] at hb4 I4 hK4 hz4 ⊢
  have B3 : rb + 1 < bb := by omega
  have P4 := hid hb4
  clear hI4 hF4 hb4 hbb I3 F3
  go_wp2_with fail
  refine (unread_body _ _ _ _ _ _ _ _ _ w4 I4.out).mono ?_
  rintro e w' ⟨rfl, hw⟩
  obtain rfl := hw.symm
  clear hw
  go_wp2_with fail
  refine (body_again _ _ _ _ _ _ _ _ _ w4 I4.out).mono ?_
  rintro e w5 ⟨rfl, q5, hw⟩
  subst hw
  obtain ⟨c0, c1, c2, c3, c4, c5, cf⟩ := inc_cell I4.out
  clear c2 c3 c4 c5 cf
  go_wp2_with fail
  have D4 : Own w.heap.size w4 ds w.heap.size zs := O1.out.keep' fun hlt => by
    rw [hK4.block _ (by omega) (by omega) (by omega), hb3.block _ (by omega), hb2.block _ hlt]
  have HS := hid (fun q => same_part w.heap.size bb w.heap.size ds zs.length zs 0 sz (w4.drewN q) P4.out ⟨D4.len, D4.nil, D4.base, D4.pos⟩ (by omega) sz ds (fun _ h => h))
  have FIN : Hid (Below w.heap.size w w4) := hid (((hb1.trans (hb2.mono B1)).trans (hb3.mono (by omega))).trans (hK4.base (by omega) (by omega) (by omega)))
  clear hb1 hb2 hb3 hK4 D4 I4 O1 O2 P4 HD
  refine (HS.out q5).mono ?_
  rintro e w6 ⟨rfl, q6, hw⟩
  rw [World.drewN_drewN] at hw
  subst hw
  go_wp2_with fail
  refine (HS.out _).mono ?_
  rintro e w7 ⟨rfl, q7, hw⟩
  rw [World.drewN_drewN] at hw
  subst hw
  go_wp2
  go_quiet (fail)
  go_wp2
  go_ret
  refine ⟨rfl, ?_⟩
  have := FIN.out
  exact ⟨this.os, this.tape, this.output, this.size, this.block⟩

set_option maxHeartbeats 1000000 in
theorem lawA_ok_zero (typ : Int) (so : Option Addr) (c : Nat) (zs : List Int) (w : World) (hD : Src w so c zs) :
    Calls Tryd.prog 3 #[.int .u8 typ, .int .i64 0, .slice so zs.length c] w fun e w' => e = .returned (.bool true) ∧ Below w.heap.size w w' := by
  have hlen := hD.len
  have k1 : ¬ (1048576 : Int) < (zs.length : Int) := by omega
  have hq := fun w a n => Lib.run_eql_slice_nil (P := Tryd.prog) w 22 5 (some a) n n 0 0 Tryd.underlying22
  have hnq := neq_ptr
  have HD := hid hD
  clear hD
  go_enter Tryd.func3, Tryd.ntmps3
  go_wp2_with (go_at_call 6; refine (guard6 _ _ _ _ _ _ hlen).mono ?_; rintro e w' ⟨rfl, hw⟩; obtain rfl := hw.symm)
  refine (clone_gen so c zs w HD.out).mono ?_
  rintro e w1 ⟨ds, rfl, hO1, hb1, hz1⟩
  have O1 := hid hO1
  clear hO1 hz1
  go_wp2_with fail
  refine (clone_gen ds zs.length zs w1 O1.out.src).mono ?_
  rintro e w2 ⟨fs, rfl, hO2, hb2, hz2⟩
  have O2 := hid hO2
  clear hO2 hz2
  go_wp2_with fail
  refine (newInc_gen _ typ 0 fs w1.heap.size zs w2 O2.out).mono ?_
  rintro e w3 ⟨rfl, hI3, hF3, hb3, hz3⟩
  have I3 := hid hI3
  have F3 := hid hF3
  clear hI3 hF3
  have B1 : w.heap.size ≤ w1.heap.size := hb1.size
  have B2 : w1.heap.size ≤ w2.heap.size := hb2.size
  obtain ⟨rb, hrb⟩ : ∃ rb, w2.heap.size = rb := ⟨_, rfl⟩
  rw [hrb] at I3 F3 hb3 hz3 B2 ⊢
  clear hrb
  go_wp2_with fail
  refine (unread_yes _ _ _ _ _ w3 I3.out).mono ?_
  rintro e w' ⟨rfl, hw⟩
  obtain rfl := hw.symm
  clear hw
  go_wp2_with fail
  refine (body_ok (rb + 1) typ rb fs w1.heap.size zs 0 0 false w3 I3.out (by omega) (by omega) F3.out (by omega) (by omega)).mono ?_
  rintro e w4 ⟨rfl, hb4, hI4, hF4, hK4, hz4⟩
  have I4 : Hid (w4.heap[rb + 1]? = some (.cells (inc typ 0 rb (.slice (some ⟨w3.heap.size, 0, none⟩) 0 0) .nilIface false) 36 (0, 0))) := hI4
  obtain ⟨bb, hbb⟩ : ∃ bb, w3.heap.size = bb := ⟨_, rfl⟩
  rw [hbb] at hb4 I4 hK4 hz4 ⊢
  have B3 : rb + 1 < bb := by omega
  have P4 := hid hb4
  clear hI4 hF4 hb4 hbb I3 F3
  go_wp2_with fail
  refine (unread_body _ _ _ _ _ _ _ _ _ w4 I4.out).mono ?_
  rintro e w' ⟨rfl, hw⟩
  obtain rfl := hw.symm
  clear hw
  go_wp2_with fail
  refine (body_again _ _ _ _ _ _ _ _ _ w4 I4.out).mono ?_
  rintro e w5 ⟨rfl, q5, hw⟩
  subst hw
  obtain ⟨c0, c1, c2, c3, c4, c5, cf⟩ := inc_cell I4.out
  clear c2 c3 c4 c5 cf
  go_wp2_with fail
  have D4 : Own w.heap.size w4 ds w.heap.size zs := O1.out.keep' fun hlt => by
    rw [hK4.block _ (by omega) (by omega) (by omega), hb3.block _ (by omega), hb2.block _ hlt]
  have HS := hid (fun q => same_part w.heap.size bb w.heap.size ds zs.length zs 0 0 (w4.drewN q) P4.out ⟨D4.len, D4.nil, D4.base, D4.pos⟩ (by omega) 0 ds (fun _ h => h))
  have FIN : Hid (Below w.heap.size w w4) := hid (((hb1.trans (hb2.mono B1)).trans (hb3.mono (by omega))).trans (hK4.base (by omega) (by omega) (by omega)))
  clear hb1 hb2 hb3 hK4 D4 I4 O1 O2 P4 HD
  refine (HS.out q5).mono ?_
  rintro e w6 ⟨rfl, q6, hw⟩
  rw [World.drewN_drewN] at hw
  subst hw
  go_wp2_with fail
  refine (HS.out _).mono ?_
  rintro e w7 ⟨rfl, q7, hw⟩
  rw [World.drewN_drewN] at hw
  subst hw
  go_wp2
  go_quiet (fail)
  go_wp2
  go_ret
  refine ⟨rfl, ?_⟩
  have := FIN.out
  exact ⟨this.os, this.tape, this.output, this.size, this.block⟩

set_option maxHeartbeats 1000000 in
theorem lawA_err (typ : Int) (sz : Nat) (so : Option Addr) (c : Nat) (zs : List Int) (w : World) (hD : Src w so c zs) (hsz : sz ≤ 65536) (hle : zs.length < sz) (a0 a1 : Addr) (hE : Errs w.heap.size a0 a1 w) :
    Calls Tryd.prog 3 #[.int .u8 typ, .int .i64 sz, .slice so zs.length c] w fun e w' => e = .returned (.bool true) ∧ Below w.heap.size w w' := by
  have hlen := hD.len
  have k1 : ¬ (1048576 : Int) < (zs.length : Int) := by omega
  have k2 : ¬ (65536 : Int) < (sz : Int) := by omega
  have k3 : ¬ (sz : Int) < 0 := by omega
  have k4 : (0 : Int) < (sz : Int) := by omega
  have hq := fun w => Lib.run_eql_slice_nil (P := Tryd.prog) w 22 5 none 0 0 0 0 Tryd.underlying22
  have HD := hid hD
  have HE := hid hE
  clear hD hE
  go_enter Tryd.func3, Tryd.ntmps3
  go_wp2_with (go_at_call 6; refine (guard6 _ _ _ _ _ _ hlen).mono ?_; rintro e w' ⟨rfl, hw⟩; obtain rfl := hw.symm)
  refine (clone_gen so c zs w HD.out).mono ?_
  rintro e w1 ⟨ds, rfl, hO1, hb1, hz1⟩
  have O1 := hid hO1
  clear hO1 hz1
  go_wp2_with fail
  refine (clone_gen ds zs.length zs w1 O1.out.src).mono ?_
  rintro e w2 ⟨fs, rfl, hO2, hb2, hz2⟩
  have O2 := hid hO2
  clear hO2 hz2
  go_wp2_with fail
  refine (newInc_gen _ typ sz fs w1.heap.size zs w2 O2.out).mono ?_
  rintro e w3 ⟨rfl, hI3, hF3, hb3, hz3⟩
  have I3 := hid hI3
  have F3 := hid hF3
  clear hI3 hF3
  have B1 : w.heap.size ≤ w1.heap.size := hb1.size
  have B2 : w1.heap.size ≤ w2.heap.size := hb2.size
  obtain ⟨rb, hrb⟩ : ∃ rb, w2.heap.size = rb := ⟨_, rfl⟩
  rw [hrb] at I3 F3 hb3 hz3 B2 ⊢
  clear hrb
  go_wp2_with fail
  refine (unread_yes _ _ _ _ _ w3 I3.out).mono ?_
  rintro e w' ⟨rfl, hw⟩
  obtain rfl := hw.symm
  clear hw
  go_wp2_with fail
  have hE3 : Errs w.heap.size a0 a1 w3 := HE.out.below ((hb1.trans (hb2.mono B1)).trans (hb3.mono (by omega)))
  refine (body_err w.heap.size a0 a1 (rb + 1) typ rb fs w1.heap.size zs 0 sz false w3 I3.out (by omega) (by omega) F3.out hE3 (by omega) (by omega) hsz).mono ?_
  rintro e w4 ⟨rfl, hI4, hF4, hK4, hz4⟩
  have I4 := hid hI4
  have FIN : Hid (Below w.heap.size w w4) := hid (((hb1.trans (hb2.mono B1)).trans (hb3.mono (by omega))).trans (hK4.base (by omega) (by omega) (by omega)))
  clear hI4 hF4 hb1 hb2 hb3 hK4 I3 F3 HE hE3 O1 O2 HD
  go_wp2_with fail
  refine (unread_err _ _ _ _ _ _ _ w4 I4.out).mono ?_
  rintro e w' ⟨rfl, hw⟩
  obtain rfl := hw.symm
  clear hw
  go_wp2_with fail
  refine (body_err_again _ _ _ _ _ _ _ w4 I4.out).mono ?_
  rintro e w5 ⟨rfl, q5, hw⟩
  subst hw
  obtain ⟨c0, c1, c2, c3, c4, c5, cf⟩ := inc_cell I4.out
  clear c2 c3 c4 c5 cf
  go_wp2
  go_ret
  refine ⟨rfl, ?_⟩
  have := FIN.out
  exact ⟨this.os, this.tape, this.output, this.size, this.block⟩

set_option maxHeartbeats 400000 in
theorem lawA_long (typ sz : Int) (so : Option Addr) (n c : Nat) (w : World) (hn : 1048576 < n) :
    Calls Tryd.prog 3 #[.int .u8 typ, .int .i64 sz, .slice so n c] w fun e w' => e = .returned (.bool true) ∧ Below w.heap.size w w' := by
  go_enter Tryd.func3, Tryd.ntmps3
  go_wp2_with (go_at_call 6; refine (guard6_no _ _ _ _ _ _ hn).mono ?_; rintro e w' ⟨rfl, hw⟩; obtain rfl := hw.symm)
  go_ret
  exact ⟨rfl, Below.refl _ _⟩

set_option maxHeartbeats 400000 in
theorem lawA_out (typ sz : Int) (so : Option Addr) (n c : Nat) (w : World) (hn : n ≤ 1048576) (hs : sz < 0 ∨ 65536 < sz) :
    Calls Tryd.prog 3 #[.int .u8 typ, .int .i64 sz, .slice so n c] w fun e w' => e = .returned (.bool true) ∧ Below w.heap.size w w' := by
  have k1 : ¬ (1048576 : Int) < (n : Int) := by omega
  rcases hs with hs | hs
  · go_enter Tryd.func3, Tryd.ntmps3
    go_wp2_with (go_at_call 6; refine (guard6 _ _ _ _ _ _ hn).mono ?_; rintro e w' ⟨rfl, hw⟩; obtain rfl := hw.symm)
    go_ret
    exact ⟨rfl, Below.refl _ _⟩
  · have k2 : ¬ sz < 0 := by omega
    go_enter Tryd.func3, Tryd.ntmps3
    go_wp2_with (go_at_call 6; refine (guard6 _ _ _ _ _ _ hn).mono ?_; rintro e w' ⟨rfl, hw⟩; obtain rfl := hw.symm)
    go_ret
    exact ⟨rfl, Below.refl _ _⟩

/-- THE WALK, whatever the arguments. -/
theorem lawA (typ sz : Int) (so : Option Addr) (c : Nat) (zs : List Int) (w : World) (hD : zs.length ≤ 1048576 → Src w so c zs) (a0 a1 : Addr) (hE : Errs w.heap.size a0 a1 w) :
    Calls Tryd.prog 3 #[.int .u8 typ, .int .i64 sz, .slice so zs.length c] w fun e w' => e = .returned (.bool true) ∧ Below w.heap.size w w' := by
  by_cases h1 : 1048576 < zs.length
  · exact lawA_long typ sz so _ c w h1
  by_cases h2 : sz < 0 ∨ 65536 < sz
  · exact lawA_out typ sz so _ c w (by omega) h2
  obtain ⟨n, rfl⟩ := Int.eq_ofNat_of_zero_le (show 0 ≤ sz by omega)
  by_cases h3 : zs.length < n
  · exact lawA_err typ n so c zs w (hD (by omega)) (by omega) h3 a0 a1 hE
  by_cases h4 : 0 < n
  · exact lawA_ok_pos typ n so c zs w (hD (by omega)) (by omega) (by omega) h4
  · obtain rfl : n = 0 := by omega
    exact lawA_ok_zero typ so c zs w (hD (by omega))
end Go.Proofs.Qxb6615591aDoor
