/-
  Seat b6615085a. FnHandlerRanSumsTwoRunsAndWakesOnce: the walk.
-/
import Derived.Test.Qxb6615085aB
namespace Go.Proofs.Qxb6615085a
open Go.RowKit Go.Conc

theorem Pc.below {w w' : World} {pb cb : Nat} {t n : Int} {buf : Array Value} {s : Nat} (h : Pc w pb cb t n buf s) {B : Nat} (hb : Below B w w') (h1 : pb < B) (h2 : cb < B) : Pc w' pb cb t n buf s := by
  obtain ⟨a, b, c, d, e, f, hk⟩ := h.blk
  exact ⟨⟨a, b, c, d, e, f, (hb.block _ h1).trans hk⟩, (hb.block _ h2).trans h.ch, h.ne⟩
theorem Pc.draw {w : World} {pb cb : Nat} {t n : Int} {buf : Array Value} {s : Nat} (h : Pc w pb cb t n buf s) (q : Nat) : Pc (w.drewN q) pb cb t n buf s := ⟨h.blk, h.ch, h.ne⟩
theorem below_drewN {B : Nat} (w : World) (q : Nat) : Below B w (w.drewN q) := ⟨rfl, rfl, rfl, Nat.le_refl _, fun _ _ => rfl⟩
theorem w64 (n : Int) : IntKind.i64.wrap n = wrap64 n := by rw [IntKind.wrap_i64]; unfold wrap64; omega
theorem wrap_swap (a b c : Int) : IntKind.i64.wrap (IntKind.i64.wrap (a + c) + b) = IntKind.i64.wrap (IntKind.i64.wrap (a + b) + c) := by
  rw [IntKind.wrap_i64, IntKind.wrap_i64, IntKind.wrap_i64, IntKind.wrap_i64]; omega
theorem wrap_inc (n : Int) : IntKind.i64.wrap (IntKind.i64.wrap (n + 1) + 1) = IntKind.i64.wrap (n + 2) := by
  rw [IntKind.wrap_i64, IntKind.wrap_i64, IntKind.wrap_i64]; omega

set_option maxHeartbeats 1000000 in
theorem walk (a0 a1 a2 a3 a4 : Int) (w : World) :
    Calls Try.prog 3 #[.int .i64 a0, .int .i64 a1, .int .i64 a2, .int .i64 a3, .int .i64 a4] w fun e w' => e = .returned (.bool true) ∧ Below w.heap.size w w' := by
  by_cases h0 : a0 < 0
  · go_enter Try.func3, Try.ntmps3
    go_wp2
    go_ret
    exact ⟨rfl, Below.refl _ _⟩
  by_cases h1 : a1 < 0
  · go_enter Try.func3, Try.ntmps3
    go_wp2
    go_ret
    exact ⟨rfl, Below.refl _ _⟩
  by_cases h2 : a2 < 0
  · go_enter Try.func3, Try.ntmps3
    go_wp2
    go_ret
    exact ⟨rfl, Below.refl _ _⟩
  go_enter Try.func3, Try.ntmps3
  go_wp2_with fail
  refine (new5 a0 a1 a2 w).mono ?_
  rintro e w1 ⟨rfl, p1, b1⟩
  obtain ⟨pb, hpb⟩ : ∃ p, w.heap.size + 1 = p := ⟨_, rfl⟩
  obtain ⟨cb, hcb⟩ : ∃ p, w.heap.size = p := ⟨_, rfl⟩
  have P1 : Hid (Pc w1 pb cb a0 a1 #[] 0) := by rw [← hpb, ← hcb]; exact hid p1
  have B1 := hid b1
  have hlo : w.heap.size ≤ pb := by omega
  have hlo2 : w.heap.size ≤ cb := by omega
  rw [hpb]
  clear p1 b1 hpb hcb
  go_wp2_with fail
  refine (zzRan_room pb cb a0 a1 a3 w1 P1.out w.heap.size hlo hlo2).mono ?_
  rintro e w2 ⟨rfl, p2, b2⟩
  have P2 := hid p2
  have B2 : Hid (Below w.heap.size w w2) := hid (B1.out.trans b2)
  clear p2 b2 P1 B1
  go_wp2_with fail
  refine (zzRan_full pb cb _ _ a4 w2 P2.out w.heap.size hlo).mono ?_
  rintro e w3 ⟨rfl, p3, b3⟩
  obtain ⟨t1, ht1⟩ : ∃ t, IntKind.i64.wrap (IntKind.i64.wrap (a0 + a3) + a4) = t := ⟨_, rfl⟩
  obtain ⟨n1, hn1⟩ : ∃ t, IntKind.i64.wrap (IntKind.i64.wrap (a1 + 1) + 1) = t := ⟨_, rfl⟩
  rw [ht1, hn1] at p3
  have P3 := hid p3
  have B3 : Hid (Below w.heap.size w w3) := hid (B2.out.trans b3)
  have T1 := hid ht1
  have N1 := hid hn1
  clear p3 b3 P2 B2 ht1 hn1
  go_wp2_with fail
  refine (sums7 pb cb t1 n1 _ _ w3 P3.out).mono ?_
  rintro e w4 ⟨rfl, q, hw⟩
  have P4 : Hid (Pc w4 pb cb t1 n1 #[.agg #[]] 1) := by rw [hw]; exact hid (P3.out.draw q)
  have B4 : Hid (Below w.heap.size w w4) := by rw [hw]; exact hid (B3.out.trans (below_drewN _ _))
  clear hw P3 B3
  go_wp2_with fail
  refine (wakes8 pb cb t1 n1 _ _ w4 P4.out).mono ?_
  rintro e w5 ⟨rfl, hw⟩
  obtain rfl := hw.symm
  clear hw P4
  go_wp2_with fail
  refine (new5 a0 a1 a2 w4).mono ?_
  rintro e w6 ⟨rfl, p1, b1⟩
  obtain ⟨qb, hqb⟩ : ∃ p, w4.heap.size + 1 = p := ⟨_, rfl⟩
  obtain ⟨db, hdb⟩ : ∃ p, w4.heap.size = p := ⟨_, rfl⟩
  have P1 : Hid (Pc w6 qb db a0 a1 #[] 0) := by rw [← hqb, ← hdb]; exact hid p1
  have hs4 := B4.out.size
  have B6 : Hid (Below w.heap.size w w6) := hid (B4.out.trans (b1.mono hs4))
  have hlo3 : w.heap.size ≤ qb := by omega
  have hlo4 : w.heap.size ≤ db := by omega
  rw [hqb]
  clear p1 b1 hqb hdb hs4 B4 hlo hlo2
  go_wp2_with fail
  refine (zzRan_room qb db a0 a1 a4 w6 P1.out w.heap.size hlo3 hlo4).mono ?_
  rintro e w7 ⟨rfl, p2, b2⟩
  have P2 := hid p2
  have B7 : Hid (Below w.heap.size w w7) := hid (B6.out.trans b2)
  clear p2 b2 P1 B6
  go_wp2_with fail
  refine (zzRan_full qb db _ _ a3 w7 P2.out w.heap.size hlo3).mono ?_
  rintro e w8 ⟨rfl, p3, b3⟩
  rw [wrap_swap, T1.out, N1.out] at p3
  have P3 := hid p3
  have B8 : Hid (Below w.heap.size w w8) := hid (B7.out.trans b3)
  clear p3 b3 P2 B7
  go_wp2_with fail
  refine (sums7 qb db t1 n1 _ _ w8 P3.out).mono ?_
  rintro e w9 ⟨rfl, q2, hw⟩
  have P4 : Hid (Pc w9 qb db t1 n1 #[.agg #[]] 1) := by rw [hw]; exact hid (P3.out.draw q2)
  have B9 : Hid (Below w.heap.size w w9) := by rw [hw]; exact hid (B8.out.trans (below_drewN _ _))
  clear hw P3 B8
  go_wp2_with fail
  refine (wakes8 qb db t1 n1 _ _ w9 P4.out).mono ?_
  rintro e w10 ⟨rfl, hw⟩
  obtain rfl := hw.symm
  clear hw P4
  have e1 : t1 = wrap64 (wrap64 (a0 + a3) + a4) := by rw [← T1.out, w64, w64]
  have e2 : n1 = wrap64 (a1 + 2) := by rw [← N1.out, wrap_inc, w64]
  go_wp2
  go_ret
  exact ⟨rfl, B9.out⟩
end Go.Proofs.Qxb6615085a
