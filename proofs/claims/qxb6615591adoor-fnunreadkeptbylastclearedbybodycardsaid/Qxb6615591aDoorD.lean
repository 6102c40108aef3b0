/-
  Seat b6615591aD. io.ReadAtLeast, io.ReadFull.
-/
import Derived.Test.Qxb6615591aDoorC
namespace Go.Proofs.Qxb6615591aDoor
open Go.RowKit

set_option maxHeartbeats 400000 in
theorem ral_zero (r : Value) (so : Option Addr) (c : Nat) (w : World) :
    Calls Tryd.prog 20 #[r, .slice so 0 c, .int .i64 0] w fun e w' => e = .returned (.tuple #[.int .i64 0, .nilIface]) ∧ w' = w := by
  go_enter Tryd.func20, Tryd.ntmps20
  go_wp2
  refine wp_loop_rounds 1 ?_
  rw [rounds_succ]
  go_wp2
  go_ret2
  exact ⟨rfl, rfl⟩

theorem nil_ahead (a : Addr) (w : World) : (nilAhead 179 42 (.pointer (some a)) "Read").run Tryd.prog w = .ok (some false) w := by kernel_rfl
theorem method_read (a : Addr) (w : World) : (method 179 42 (.pointer (some a)) "Read").run Tryd.prog w = .ok (37, .pointer (some a)) w := by kernel_rfl

set_option maxHeartbeats 400000 in
theorem ral_eof (rb : Nat) (so : Option Addr) (n c i : Nat) (pr : Int) (db m : Nat) (eof : Value) (w : World) (h : w.heap[rb]? = some (.cells (rdr so n c i pr) 47 (0, 0)))
    (hg : w.cell? ⟨0, 0, none⟩ = some (.iface 52 eof)) (hn : n ≤ i) (hi : i ≤ 1048576) (hm : 0 < m) (hm2 : m ≤ 65536) :
    Calls Tryd.prog 20 #[.iface 42 (.pointer (some ⟨rb, 0, none⟩)), .slice (some ⟨db, 0, none⟩) m m, .int .i64 m] w fun e w' => e = .returned (.tuple #[.int .i64 0, .iface 52 eof]) ∧ ∃ q, w' = w.drewN q := by
  have H : Hid (w.heap[rb]? = some (.cells (rdr so n c i pr) 47 (0, 0))) := h
  clear h
  have h1 : (0 : Int) < (m : Int) := by omega
  have h2 : ¬ (m : Int) < (m : Int) := by omega
  have hna := nil_ahead
  have hme := method_read
  go_enter Tryd.func20, Tryd.ntmps20
  go_wp2
  refine wp_loop_rounds 2 ?_
  rw [rounds_succ]
  go_wp2
  go_region_with (go_at_call 37; refine (read_eof rb so n c i pr _ eof _ ?_ ?_ hn hi).mono ?_; exact H.out; exact hg; rintro e w' ⟨rfl, q, rfl⟩)
  go_wp2
  rw [rounds_succ]
  go_wp2
  go_ret2
  exact ⟨rfl, _, rfl⟩

set_option maxHeartbeats 400000 in
theorem ral_ok (rb fb n c i : Nat) (pr : Int) (db m : Nat) (cur cs : List Value) (w : World) (h : w.heap[rb]? = some (.cells (rdr (some ⟨fb, 0, none⟩) n c i pr) 47 (0, 0)))
    (hn : i + m ≤ n) (hnc : n ≤ c) (hi : c ≤ 1048576) (hm0 : 0 < m) (hm : m ≤ 65536) (hd : w.heap[db]? = some (.cells cur.toArray 5 (0, 0))) (hfit : m ≤ cur.length) (hcl : cs.length = m)
    (hcs : ∀ j v, cs[j]? = some v → w.cell? ⟨fb, i + j, none⟩ = some v) (h1 : ∀ v ∈ cs, v.oneCell' = true) (hr : rb < db) (hfr : fb ≠ rb) :
    Calls Tryd.prog 20 #[.iface 42 (.pointer (some ⟨rb, 0, none⟩)), .slice (some ⟨db, 0, none⟩) m m, .int .i64 m] w fun e w' => e = .returned (.tuple #[.int .i64 m, .nilIface]) ∧ 
      w'.heap[rb]? = some (.cells (rdr (some ⟨fb, 0, none⟩) n c (i + m) (-1)) 47 (0, 0)) ∧ w'.heap[db]? = some (.cells (splice cur 0 cs).toArray 5 (0, 0)) ∧ Kb db rb w w' := by
  have R := fun (q : Nat) => read_ok rb fb n c i pr db 0 m m cur cs (w.drewN q) h (by omega) hnc hi hm hd (by omega) (by rw [hcl]; omega) hcs h1 hr hfr
  have H : Hid _ := R
  rw [hcl] at H
  clear R h hd hcs hcl h1
  have e1 : (0 : Int) < (m : Int) := by omega
  have e2 : ¬ (m : Int) < (m : Int) := by omega
  have hna := nil_ahead
  have hme := method_read
  go_enter Tryd.func20, Tryd.ntmps20
  go_wp2
  refine wp_loop_rounds 2 ?_
  rw [rounds_succ]
  go_wp2
  go_region_with (go_at_call 37; refine (H.out 1).mono ?_; rintro e w' ⟨rfl, g1, g2, g3⟩)
  go_wp2
  rw [rounds_succ]
  go_wp2
  go_ret2
  exact ⟨rfl, g1, g2, (Kb.drewN (Kb.refl _ _ _) 1).trans g3⟩

theorem info52 : ∃ i, Tryd.prog.info? 52 = some i ∧ i.comparable = true := by
  have h : (Tryd.prog.info? 52).map (·.comparable) = some true := by kernel_rfl
  obtain ⟨i, h1, h2⟩ := Option.map_eq_some_iff.1 h
  exact ⟨i, h1, h2⟩
theorem info71 : ∃ j, Tryd.prog.info? 71 = some j ∧ j.size ≠ 0 := by
  have h : (Tryd.prog.info? 71).map (·.size) = some 1 := by kernel_rfl
  obtain ⟨i, h1, h2⟩ := Option.map_eq_some_iff.1 h
  exact ⟨i, h1, by omega⟩
theorem eql_same (a : Addr) (w : World) : (binOp .eql 29 (.iface 52 (.pointer (some a))) (.iface 52 (.pointer (some a)))).run Tryd.prog w = .ok (.bool true) w := by
  obtain ⟨i, hi, hc⟩ := info52
  obtain ⟨j, hj, _⟩ := info71
  exact run_eql_iface_ptr_same w a Tryd.underlying29 Tryd.underlying52 hi hc hj
theorem eql_other {a b : Addr} {ca cb : Array Value} {ta tb : TypeId} (w : World) (hne : a ≠ b) (ha : w.heap[a.block]? = some (.cells ca ta (0, 0))) (hb : w.heap[b.block]? = some (.cells cb tb (0, 0))) :
    (binOp .eql 29 (.iface 52 (.pointer (some a))) (.iface 52 (.pointer (some b)))).run Tryd.prog w = .ok (.bool false) w := by
  obtain ⟨i, hi, hc⟩ := info52
  obtain ⟨j, hj, hs⟩ := info71
  exact run_eql_iface_ptr_other w Tryd.underlying29 Tryd.underlying52 hi hc hj hs hne ha hb

set_option maxHeartbeats 800000 in
theorem ral_short (rb fb n c i : Nat) (pr : Int) (db m : Nat) (cur cs : List Value) (a0 : Addr) (unx : Value) (w : World) (h : w.heap[rb]? = some (.cells (rdr (some ⟨fb, 0, none⟩) n c i pr) 47 (0, 0)))
    (hin : i < n) (hn : n < i + m) (hnc : n ≤ c) (hi : c ≤ 1048576) (hm : m ≤ 65536) (hd : w.heap[db]? = some (.cells cur.toArray 5 (0, 0))) (hfit : m ≤ cur.length) (hcl : cs.length = n - i)
    (hcs : ∀ j v, cs[j]? = some v → w.cell? ⟨fb, i + j, none⟩ = some v) (h1 : ∀ v ∈ cs, v.oneCell' = true) (hr : rb < db) (hfr : fb ≠ rb)
    (hg0 : w.cell? ⟨0, 0, none⟩ = some (.iface 52 (.pointer (some a0)))) (hg1 : w.cell? ⟨1, 0, none⟩ = some (.iface 52 unx)) (hr1 : 1 < rb) :
    Calls Tryd.prog 20 #[.iface 42 (.pointer (some ⟨rb, 0, none⟩)), .slice (some ⟨db, 0, none⟩) m m, .int .i64 m] w fun e w' => e = .returned (.tuple #[.int .i64 ((n - i : Nat) : Int), .iface 52 unx]) ∧ 
      w'.heap[rb]? = some (.cells (rdr (some ⟨fb, 0, none⟩) n c n (-1)) 47 (0, 0)) ∧ Kb db rb w w' := by
  have R := fun (q : Nat) => read_ok rb fb n c i pr db 0 m m cur cs (w.drewN q) h (by omega) hnc hi hm hd (by omega) (by rw [hcl]; omega) hcs h1 hr hfr
  have H : Hid _ := R
  rw [hcl] at H
  clear R h hd hcs hcl h1
  obtain ⟨k, hk⟩ : ∃ k, k = n - i := ⟨_, rfl⟩
  rw [← hk] at H ⊢
  have hk0 : 0 < k := by omega
  have hkm : k < m := by omega
  have hik : i + k = n := by omega
  rw [hik] at H
  clear hk hik
  have e1 : (0 : Int) < (m : Int) := by omega
  have e2 : ¬ (m : Int) < (m : Int) := by omega
  have e3 : (k : Int) < (m : Int) := by omega
  have hn1 : n ≤ 1048576 := by omega
  have e5 : ¬ m = k := by omega
  have e6 : k ≤ m := by omega
  have e4 : (0 : Int) < (k : Int) := by omega
  have hna := nil_ahead
  have hme := method_read
  have heq := eql_same a0
  have G0 : Hid (w.cell? ⟨0, 0, none⟩ = some (.iface 52 (.pointer (some a0)))) := hg0
  have G1 : Hid (w.cell? ⟨1, 0, none⟩ = some (.iface 52 unx)) := hg1
  clear hg0 hg1
  go_enter Tryd.func20, Tryd.ntmps20
  go_wp2
  refine wp_loop_rounds 3 ?_
  rw [rounds_succ]
  go_wp2
  go_region_with (go_at_call 37; refine (H.out 1).mono ?_; rintro e w1 ⟨rfl, g1, g2, g3⟩)
  have q0 : w1.cell? ⟨0, 0, none⟩ = some (.iface 52 (.pointer (some a0))) := (g3.cell (p := ⟨0, 0, none⟩) (by simp; omega) (by simp; omega)).trans G0.out
  have q1 : w1.cell? ⟨1, 0, none⟩ = some (.iface 52 unx) := (g3.cell (p := ⟨1, 0, none⟩) (by simp; omega) (by simp; omega)).trans G1.out
  have K1 : Hid (w1.heap[rb]? = some (.cells (rdr (some ⟨fb, 0, none⟩) n c n (-1)) 47 (0, 0))) := g1
  clear g1 g2
  go_wp2
  rw [rounds_succ]
  go_wp2
  go_region_with (go_at_call 37; refine (read_eof rb (some ⟨fb, 0, none⟩) n c n (-1) _ (.pointer (some a0)) _ ?_ ?_ (Nat.le_refl _) hn1).mono ?_; exact K1.out; exact q0; rintro e w' ⟨rfl, q, rfl⟩)
  go_wp2
  rw [rounds_succ]
  go_wp2
  go_ret2
  exact ⟨rfl, K1.out, ((Kb.drewN (Kb.refl _ _ _) 1).trans g3).drewN _⟩
end Go.Proofs.Qxb6615591aDoor
