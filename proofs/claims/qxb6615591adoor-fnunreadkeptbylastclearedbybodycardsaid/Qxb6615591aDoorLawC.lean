/-
  Seat b6615591aD. FnUnreadKeptByLastClearedByBody: the walk.
-/
import Derived.Test.Qxb6615591aDoorG
namespace Go.Proofs.Qxb6615591aDoor
open Go.RowKit

theorem inc_last (typ sz : Int) (rb : Nat) (b e : Value) (l v : Bool) : (inc typ sz rb b e l).setIfInBounds 5 (.bool v) = inc typ sz rb b e v := by simp [inc]
theorem Feed.last {w1 : World} {rb : Nat} {so : Option Addr} {fb : Nat} {fs : List Int} {i : Nat} (h : Feed w1 rb so fb fs i) (ib : Nat) (hne : ib ≠ rb) (hnf : ib ≠ fb) {v : Value} {o : Nat} :
    Feed (w1.setCell ⟨ib, o, none⟩ v) rb so fb fs i := by
  obtain ⟨⟨pr, hrd⟩, hle, hlen, hpos⟩ := h
  refine ⟨⟨pr, (Below.heap_setCell _ _ _ _ (by simpa using Ne.symm hne)).trans hrd⟩, hle, hlen, fun hp => ?_⟩
  obtain ⟨h1, h2, h3⟩ := hpos hp
  exact ⟨h1, h2, (Below.heap_setCell _ _ _ _ (by simpa using Ne.symm hnf)).trans h3⟩

set_option maxHeartbeats 1000000 in
theorem lawC_ok_pos (typ : Int) (sz : Nat) (so : Option Addr) (c : Nat) (zs : List Int) (w : World) (hD : Src w so c zs) (hsz : sz ≤ 65536) (hle : sz ≤ zs.length) (hp : 0 < sz) :
    Calls Tryd.prog 5 #[.int .u8 typ, .int .i64 sz, .slice so zs.length c] w fun e w' => e = .returned (.bool true) ∧ Below w.heap.size w w' := by
  have hlen := hD.len
  have k1 : ¬ (1048576 : Int) < (zs.length : Int) := by omega
  have k2 : ¬ (65536 : Int) < (sz : Int) := by omega
  have k3 : ¬ (sz : Int) < 0 := by omega
  have k4 : (0 : Int) < (sz : Int) := by omega
  have hq := fun w a n => Lib.run_eql_slice_nil (P := Tryd.prog) w 22 5 (some a) n n 0 0 Tryd.underlying22
  have HD := hid hD
  clear hD
  go_enter Tryd.func5, Tryd.ntmps5
  go_wp2_with (go_at_call 14; refine (guard14 _ _ _ _ _ _ hlen).mono ?_; rintro e w' ⟨rfl, hw⟩; obtain rfl := hw.symm)
  refine (clone_gen so c zs w HD.out).mono ?_
  rintro e w1 ⟨ds, rfl, hO1, hb1, hz1⟩
  have O1 := hid hO1
  clear hO1 hz1
  go_wp2_with fail
  refine (clone_gen ds zs.length zs w1 O1.out.src).mono ?_
  rintro e w2 ⟨fs, rfl, hO2, hb2, hz2⟩
  have O2 := hid hO2
  clear hO2 hz2
  go_wp2_with fail
  refine (newInc_gen _ typ sz fs w1.heap.size zs w2 O2.out).mono ?_
  rintro e w3 ⟨rfl, hI3, hF3, hb3, hz3⟩
  have I3 := hid hI3
  have F3 := hid hF3
  clear hI3 hF3
  have B1 : w.heap.size ≤ w1.heap.size := hb1.size
  have B2 : w1.heap.size ≤ w2.heap.size := hb2.size
  obtain ⟨rb, hrb⟩ : ∃ rb, w2.heap.size = rb := ⟨_, rfl⟩
  rw [hrb] at I3 F3 hb3 hz3 B2 ⊢
  clear hrb
  go_wp2_with fail
  refine (unread_yes _ _ _ _ _ w3 I3.out).mono ?_
  rintro e w' ⟨rfl, hw⟩
  obtain rfl := hw.symm
  clear hw
  go_wp2_with fail
  refine (last_any _ _ _ _ _ _ _ w3 I3.out).mono ?_
  rintro e w4 ⟨rfl, hw⟩
  have hI4 := heap_set_same (o := 5) I3.out (.bool true)
  rw [← hw] at hI4
  have I4 : Hid (w4.heap[rb + 1]? = some (.cells (inc typ sz rb (.slice none 0 0) .nilIface true) 36 (0, 0))) := by rw [inc_last] at hI4; exact hI4
  have F4 : Hid (Feed w4 rb fs w1.heap.size zs 0) := by rw [hw]; exact F3.out.last (rb + 1) (by omega) (by omega)
  have hb4 : Below rb w3 w4 := by rw [hw]; exact (Below.refl _ _).setCell (by simp) _
  have hz4 : rb + 1 < w4.heap.size := by have := hb4.size; omega
  clear hI4 hw I3 F3
  go_wp2_with fail
  refine (unread_yes _ _ _ _ _ w4 I4.out).mono ?_
  rintro e w' ⟨rfl, hw⟩
  obtain rfl := hw.symm
  clear hw
  go_wp2_with fail
  refine (body_ok (rb + 1) typ rb fs w1.heap.size zs 0 sz true w4 I4.out (by omega) (by omega) F4.out (by omega) hsz).mono ?_
  rintro e w5 ⟨rfl, _, hI5, _, hK5, hz5⟩
  have I5 : Hid (w5.heap[rb + 1]? = some (.cells (inc typ sz rb (.slice (some ⟨w4.heap.size, 0, none⟩) sz sz) .nilIface true) 36 (0, 0))) := hI5
  have FIN : Hid (Below w.heap.size w w5) := hid ((((hb1.trans (hb2.mono B1)).trans (hb3.mono (by omega))).trans (hb4.mono (by omega))).trans (hK5.base (by omega) (by omega) (by omega)))
  clear hI5 hb1 hb2 hb3 hb4 hK5 I4 F4 O1 O2 HD
  obtain ⟨bb, hbb⟩ : ∃ bb, w4.heap.size = bb := ⟨_, rfl⟩
  rw [hbb] at I5 hz5 ⊢
  clear hbb
  go_wp2_with fail
  refine (unread_body _ _ _ _ _ _ _ _ _ w5 I5.out).mono ?_
  rintro e w' ⟨rfl, hw⟩
  obtain rfl := hw.symm
  clear hw
  go_wp2_with fail
  refine (last_any _ _ _ _ _ _ _ w5 I5.out).mono ?_
  rintro e w6 ⟨rfl, hw⟩
  have hI6 := heap_set_same (o := 5) I5.out (.bool true)
  rw [← hw] at hI6
  have I6 : Hid (w6.heap[rb + 1]? = some (.cells (inc typ sz rb (.slice (some ⟨bb, 0, none⟩) sz sz) .nilIface true) 36 (0, 0))) := by rw [inc_last] at hI6; exact hI6
  have FIN6 : Hid (Below w.heap.size w w6) := by rw [hw]; exact hid (FIN.out.setCell (by simp; omega) _)
  clear hI6 hw I5 FIN
  go_wp2_with fail
  refine (unread_body _ _ _ _ _ _ _ _ _ w6 I6.out).mono ?_
  rintro e w' ⟨rfl, hw⟩
  obtain rfl := hw.symm
  clear hw
  go_wp2
  go_ret
  exact ⟨rfl, FIN6.out⟩

set_option maxHeartbeats 1000000 in
theorem lawC_ok_zero (typ : Int) (so : Option Addr) (c : Nat) (zs : List Int) (w : World) (hD : Src w so c zs) :
    Calls Tryd.prog 5 #[.int .u8 typ, .int .i64 0, .slice so zs.length c] w fun e w' => e = .returned (.bool true) ∧ Below w.heap.size w w' := by
  have hlen := hD.len
  have k1 : ¬ (1048576 : Int) < (zs.length : Int) := by omega
  have hq := fun w a n => Lib.run_eql_slice_nil (P := Tryd.prog) w 22 5 (some a) n n 0 0 Tryd.underlying22
  have HD := hid hD
  clear hD
  go_enter Tryd.func5, Tryd.ntmps5
  go_wp2_with (go_at_call 14; refine (guard14 _ _ _ _ _ _ hlen).mono ?_; rintro e w' ⟨rfl, hw⟩; obtain rfl := hw.symm)
  refine (clone_gen so c zs w HD.out).mono ?_
  rintro e w1 ⟨ds, rfl, hO1, hb1, hz1⟩
  have O1 := hid hO1
  clear hO1 hz1
  go_wp2_with fail
  refine (clone_gen ds zs.length zs w1 O1.out.src).mono ?_
  rintro e w2 ⟨fs, rfl, hO2, hb2, hz2⟩
  have O2 := hid hO2
  clear hO2 hz2
  go_wp2_with fail
  refine (newInc_gen _ typ 0 fs w1.heap.size zs w2 O2.out).mono ?_
  rintro e w3 ⟨rfl, hI3, hF3, hb3, hz3⟩
  have I3 := hid hI3
  have F3 := hid hF3
  clear hI3 hF3
  have B1 : w.heap.size ≤ w1.heap.size := hb1.size
  have B2 : w1.heap.size ≤ w2.heap.size := hb2.size
  obtain ⟨rb, hrb⟩ : ∃ rb, w2.heap.size = rb := ⟨_, rfl⟩
  rw [hrb] at I3 F3 hb3 hz3 B2 ⊢
  clear hrb
  go_wp2_with fail
  refine (unread_yes _ _ _ _ _ w3 I3.out).mono ?_
  rintro e w' ⟨rfl, hw⟩
  obtain rfl := hw.symm
  clear hw
  go_wp2_with fail
  refine (last_any _ _ _ _ _ _ _ w3 I3.out).mono ?_
  rintro e w4 ⟨rfl, hw⟩
  have hI4 := heap_set_same (o := 5) I3.out (.bool true)
  rw [← hw] at hI4
  have I4 : Hid (w4.heap[rb + 1]? = some (.cells (inc typ 0 rb (.slice none 0 0) .nilIface true) 36 (0, 0))) := by rw [inc_last] at hI4; exact hI4
  have F4 : Hid (Feed w4 rb fs w1.heap.size zs 0) := by rw [hw]; exact F3.out.last (rb + 1) (by omega) (by omega)
  have hb4 : Below rb w3 w4 := by rw [hw]; exact (Below.refl _ _).setCell (by simp) _
  have hz4 : rb + 1 < w4.heap.size := by have := hb4.size; omega
  clear hI4 hw I3 F3
  go_wp2_with fail
  refine (unread_yes _ _ _ _ _ w4 I4.out).mono ?_
  rintro e w' ⟨rfl, hw⟩
  obtain rfl := hw.symm
  clear hw
  go_wp2_with fail
  refine (body_ok (rb + 1) typ rb fs w1.heap.size zs 0 0 true w4 I4.out (by omega) (by omega) F4.out (by omega) (by omega)).mono ?_
  rintro e w5 ⟨rfl, _, hI5, _, hK5, hz5⟩
  have I5 : Hid (w5.heap[rb + 1]? = some (.cells (inc typ 0 rb (.slice (some ⟨w4.heap.size, 0, none⟩) 0 0) .nilIface true) 36 (0, 0))) := hI5
  have FIN : Hid (Below w.heap.size w w5) := hid ((((hb1.trans (hb2.mono B1)).trans (hb3.mono (by omega))).trans (hb4.mono (by omega))).trans (hK5.base (by omega) (by omega) (by omega)))
  clear hI5 hb1 hb2 hb3 hb4 hK5 I4 F4 O1 O2 HD
  obtain ⟨bb, hbb⟩ : ∃ bb, w4.heap.size = bb := ⟨_, rfl⟩
  rw [hbb] at I5 hz5 ⊢
  clear hbb
  go_wp2_with fail
  refine (unread_body _ _ _ _ _ _ _ _ _ w5 I5.out).mono ?_
  rintro e w' ⟨rfl, hw⟩
  obtain rfl := hw.symm
  clear hw
  go_wp2_with fail
  refine (last_any _ _ _ _ _ _ _ w5 I5.out).mono ?_
  rintro e w6 ⟨rfl, hw⟩
  have hI6 := heap_set_same (o := 5) I5.out (.bool true)
  rw [← hw] at hI6
  have I6 : Hid (w6.heap[rb + 1]? = some (.cells (inc typ 0 rb (.slice (some ⟨bb, 0, none⟩) 0 0) .nilIface true) 36 (0, 0))) := by rw [inc_last] at hI6; exact hI6
  have FIN6 : Hid (Below w.heap.size w w6) := by rw [hw]; exact hid (FIN.out.setCell (by simp; omega) _)
  clear hI6 hw I5 FIN
  go_wp2_with fail
  refine (unread_body _ _ _ _ _ _ _ _ _ w6 I6.out).mono ?_
  rintro e w' ⟨rfl, hw⟩
  obtain rfl := hw.symm
  clear hw
  go_wp2
  go_ret
  exact ⟨rfl, FIN6.out⟩

set_option maxHeartbeats 1000000 in
theorem lawC_err (typ : Int) (sz : Nat) (so : Option Addr) (c : Nat) (zs : List Int) (w : World) (hD : Src w so c zs) (hsz : sz ≤ 65536) (hle : zs.length < sz) (a0 a1 : Addr) (hE : Errs w.heap.size a0 a1 w) :
    Calls Tryd.prog 5 #[.int .u8 typ, .int .i64 sz, .slice so zs.length c] w fun e w' => e = .returned (.bool true) ∧ Below w.heap.size w w' := by
  have hlen := hD.len
  have k1 : ¬ (1048576 : Int) < (zs.length : Int) := by omega
  have k2 : ¬ (65536 : Int) < (sz : Int) := by omega
  have k3 : ¬ (sz : Int) < 0 := by omega
  have k4 : (0 : Int) < (sz : Int) := by omega
  have hq := fun w a n => Lib.run_eql_slice_nil (P := Tryd.prog) w 22 5 (some a) n n 0 0 Tryd.underlying22
  have HD := hid hD
  have HE := hid hE
  have k6 : ¬ sz ≤ zs.length := by omega
  clear hD hE
  go_enter Tryd.func5, Tryd.ntmps5
  go_wp2_with (go_at_call 14; refine (guard14 _ _ _ _ _ _ hlen).mono ?_; rintro e w' ⟨rfl, hw⟩; obtain rfl := hw.symm)
  refine (clone_gen so c zs w HD.out).mono ?_
  rintro e w1 ⟨ds, rfl, hO1, hb1, hz1⟩
  have O1 := hid hO1
  clear hO1 hz1
  go_wp2_with fail
  refine (clone_gen ds zs.length zs w1 O1.out.src).mono ?_
  rintro e w2 ⟨fs, rfl, hO2, hb2, hz2⟩
  have O2 := hid hO2
  clear hO2 hz2
  go_wp2_with fail
  refine (newInc_gen _ typ sz fs w1.heap.size zs w2 O2.out).mono ?_
  rintro e w3 ⟨rfl, hI3, hF3, hb3, hz3⟩
  have I3 := hid hI3
  have F3 := hid hF3
  clear hI3 hF3
  have B1 : w.heap.size ≤ w1.heap.size := hb1.size
  have B2 : w1.heap.size ≤ w2.heap.size := hb2.size
  obtain ⟨rb, hrb⟩ : ∃ rb, w2.heap.size = rb := ⟨_, rfl⟩
  rw [hrb] at I3 F3 hb3 hz3 B2 ⊢
  clear hrb
  go_wp2_with fail
  refine (unread_yes _ _ _ _ _ w3 I3.out).mono ?_
  rintro e w' ⟨rfl, hw⟩
  obtain rfl := hw.symm
  clear hw
  go_wp2_with fail
  refine (last_any _ _ _ _ _ _ _ w3 I3.out).mono ?_
  rintro e w4 ⟨rfl, hw⟩
  have hI4 := heap_set_same (o := 5) I3.out (.bool true)
  rw [← hw] at hI4
  have I4 : Hid (w4.heap[rb + 1]? = some (.cells (inc typ sz rb (.slice none 0 0) .nilIface true) 36 (0, 0))) := by rw [inc_last] at hI4; exact hI4
  have F4 : Hid (Feed w4 rb fs w1.heap.size zs 0) := by rw [hw]; exact F3.out.last (rb + 1) (by omega) (by omega)
  have hb4 : Below rb w3 w4 := by rw [hw]; exact (Below.refl _ _).setCell (by simp) _
  have hz4 : rb + 1 < w4.heap.size := by have := hb4.size; omega
  clear hI4 hw I3 F3
  go_wp2_with fail
  refine (unread_yes _ _ _ _ _ w4 I4.out).mono ?_
  rintro e w' ⟨rfl, hw⟩
  obtain rfl := hw.symm
  clear hw
  go_wp2_with fail
  have hE4 : Errs w.heap.size a0 a1 w4 := HE.out.below (((hb1.trans (hb2.mono B1)).trans (hb3.mono (by omega))).trans (hb4.mono (by omega)))
  refine (body_err w.heap.size a0 a1 (rb + 1) typ rb fs w1.heap.size zs 0 sz true w4 I4.out (by omega) (by omega) F4.out hE4 (by omega) (by omega) hsz).mono ?_
  rintro e w5 ⟨rfl, hI5, _, hK5, hz5⟩
  have I5 := hid hI5
  have FIN : Hid (Below w.heap.size w w5) := hid ((((hb1.trans (hb2.mono B1)).trans (hb3.mono (by omega))).trans (hb4.mono (by omega))).trans (hK5.base (by omega) (by omega) (by omega)))
  clear hI5 hb1 hb2 hb3 hb4 hK5 I4 F4 O1 O2 HD HE hE4
  go_wp2_with fail
  refine (unread_err _ _ _ _ _ _ _ w5 I5.out).mono ?_
  rintro e w' ⟨rfl, hw⟩
  obtain rfl := hw.symm
  clear hw
  go_wp2_with fail
  refine (last_any _ _ _ _ _ _ _ w5 I5.out).mono ?_
  rintro e w6 ⟨rfl, hw⟩
  have hI6 := heap_set_same (o := 5) I5.out (.bool true)
  rw [← hw] at hI6
  have I6 : Hid (w6.heap[rb + 1]? = some (.cells (inc typ sz rb (.slice none 0 0) (.iface 52 (.pointer (some a1))) true) 36 (0, 0))) := by rw [inc_last] at hI6; exact hI6
  have FIN6 : Hid (Below w.heap.size w w6) := by rw [hw]; exact hid (FIN.out.setCell (by simp; omega) _)
  clear hI6 hw I5 FIN
  go_wp2_with fail
  refine (unread_err _ _ _ _ _ _ _ w6 I6.out).mono ?_
  rintro e w' ⟨rfl, hw⟩
  obtain rfl := hw.symm
  clear hw
  go_wp2
  go_ret
  exact ⟨rfl, FIN6.out⟩

set_option maxHeartbeats 400000 in
theorem lawC_long (typ sz : Int) (so : Option Addr) (n c : Nat) (w : World) (hn : 1048576 < n) :
    Calls Tryd.prog 5 #[.int .u8 typ, .int .i64 sz, .slice so n c] w fun e w' => e = .returned (.bool true) ∧ Below w.heap.size w w' := by
  go_enter Tryd.func5, Tryd.ntmps5
  go_wp2_with (go_at_call 14; refine (guard14_no _ _ _ _ _ _ hn).mono ?_; rintro e w' ⟨rfl, hw⟩; obtain rfl := hw.symm)
  go_ret
  exact ⟨rfl, Below.refl _ _⟩

set_option maxHeartbeats 400000 in
theorem lawC_out (typ sz : Int) (so : Option Addr) (n c : Nat) (w : World) (hn : n ≤ 1048576) (hs : sz < 0 ∨ 65536 < sz) :
    Calls Tryd.prog 5 #[.int .u8 typ, .int .i64 sz, .slice so n c] w fun e w' => e = .returned (.bool true) ∧ Below w.heap.size w w' := by
  have k1 : ¬ (1048576 : Int) < (n : Int) := by omega
  rcases hs with hs | hs
  · go_enter Tryd.func5, Tryd.ntmps5
    go_wp2_with (go_at_call 14; refine (guard14 _ _ _ _ _ _ hn).mono ?_; rintro e w' ⟨rfl, hw⟩; obtain rfl := hw.symm)
    go_ret
    exact ⟨rfl, Below.refl _ _⟩
  · have k2 : ¬ sz < 0 := by omega
    go_enter Tryd.func5, Tryd.ntmps5
    go_wp2_with (go_at_call 14; refine (guard14 _ _ _ _ _ _ hn).mono ?_; rintro e w' ⟨rfl, hw⟩; obtain rfl := hw.symm)
    go_ret
    exact ⟨rfl, Below.refl _ _⟩

/-- THE WALK, whatever the arguments. -/
theorem lawC (typ sz : Int) (so : Option Addr) (c : Nat) (zs : List Int) (w : World) (hD : zs.length ≤ 1048576 → Src w so c zs) (a0 a1 : Addr) (hE : Errs w.heap.size a0 a1 w) :
    Calls Tryd.prog 5 #[.int .u8 typ, .int .i64 sz, .slice so zs.length c] w fun e w' => e = .returned (.bool true) ∧ Below w.heap.size w w' := by
  by_cases h1 : 1048576 < zs.length
  · exact lawC_long typ sz so _ c w h1
  by_cases h2 : sz < 0 ∨ 65536 < sz
  · exact lawC_out typ sz so _ c w (by omega) h2
  obtain ⟨n, rfl⟩ := Int.eq_ofNat_of_zero_le (show 0 ≤ sz by omega)
  by_cases h3 : zs.length < n
  · exact lawC_err typ n so c zs w (hD (by omega)) (by omega) h3 a0 a1 hE
  by_cases h4 : 0 < n
  · exact lawC_ok_pos typ n so c zs w (hD (by omega)) (by omega) (by omega) h4
  · obtain rfl : n = 0 := by omega
    exact lawC_ok_zero typ so c zs w (hD (by omega))
end Go.Proofs.Qxb6615591aDoor
