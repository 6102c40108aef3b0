/-
  Seat b6615591aD. zzCloneBytesPeerB1, zzSameBytesPeerB1, unread, Last, the size guards.
-/
import Derived.Test.Qxb6615591aDoorA
import Derived.Deep.OwnRows
import Derived.Deep.QuietTactic
import Derived.BigQuiet
namespace Go.Proofs.Qxb6615591aDoor
open Go.RowKit

def bytesA (zs : List Int) : Array Value := (zs.map (Value.int .u8)).toArray
/-- The clone's row after k rounds. -/
def clA (zs : List Int) (k : Nat) : Array Value := ((zs.take k).map (Value.int .u8) ++ List.replicate (zs.length - k) (Value.int .u8 0)).toArray
theorem clA_zero (zs : List Int) : madeCells #[.int .u8 0] zs.length = clA zs 0 := by
  apply Array.ext'
  apply List.ext_getElem?
  intro i
  simp only [madeCells, clA, List.take_zero, List.map_nil, List.nil_append, Nat.sub_zero, List.getElem?_replicate]
  by_cases h : i < zs.length
  · have h2 : i % 1 = 0 := Nat.mod_one i
    simp [h, h2]
  · simp [h]
theorem clA_step (zs : List Int) (k : Nat) (h : k < zs.length) : (clA zs k).setIfInBounds k (.int .u8 zs[k]) = clA zs (k + 1) := by
  apply Array.ext'
  simp only [clA, Array.toList_setIfInBounds]
  apply List.ext_getElem?
  intro i
  have hm : min k zs.length = k := by omega
  have hm1 : min (k + 1) zs.length = k + 1 := by omega
  simp only [List.getElem?_set, List.getElem?_append, List.length_append, List.length_map, List.length_take, List.length_replicate, List.getElem?_map, List.getElem?_take, List.getElem?_replicate, hm, hm1]
  by_cases h1 : k = i
  · subst h1
    have : k < k + (zs.length - k) := by omega
    simp [this, h]
  · by_cases h2 : i < k
    · have h3 : i < k + 1 := by omega
      simp [h1, h2, h3]
    · have h3 : ¬ i < k + 1 := by omega
      simp only [h1, h2, h3, if_false]
      have h4 : (i - k < zs.length - k) = (i - (k + 1) < zs.length - (k + 1)) := propext (by omega)
      simp [h4]
theorem clA_full (zs : List Int) : clA zs zs.length = bytesA zs := by simp [clA, bytesA]
theorem clA_size (zs : List Int) (k : Nat) (h : k ≤ zs.length) : (clA zs k).size = zs.length := by simp [clA]; omega
theorem clA_at (zs : List Int) (k : Nat) (h : k < zs.length) : ∃ v, (clA zs k)[k]? = some v := by
  refine ⟨(clA zs k)[k]'(by rw [clA_size _ _ (by omega)]; exact h), ?_⟩
  simp

theorem Tryd.info5 : (Tryd.prog.info? 5).map (fun i => (i.zero, i.size, i.bytes)) = some (some (.int .u8 0), 1, 1) := by kernel_rfl

set_option maxHeartbeats 400000 in
theorem clone_nil (w : World) :
    Calls Tryd.prog 7 #[.slice none 0 0] w fun e w' => e = .returned (.slice none 0 0) ∧ w' = w := by
  have hq := fun w => Lib.run_eql_slice_nil (P := Tryd.prog) w 22 5 none 0 0 0 0 Tryd.underlying22
  go_enter Tryd.func7, Tryd.ntmps7
  go_wp2
  go_ret
  exact ⟨rfl, rfl⟩

set_option maxHeartbeats 400000 in
theorem clone_any (a : Addr) (c : Nat) (zs : List Int) (w : World) (hn : zs.length ≤ 1048576)
    (ha : 0 < zs.length → ∃ b off, a = ⟨b, off, none⟩ ∧ b < w.heap.size ∧ ∀ k, k < zs.length → w.cell? ⟨b, off + k, none⟩ = some (.int .u8 (zs.getD k 0))) :
    Calls Tryd.prog 7 #[.slice (some a) zs.length c] w fun e w' => e = .returned (.slice (some ⟨w.heap.size, 0, none⟩) zs.length zs.length) ∧ w' = w.alloc (.cells (bytesA zs) 5) := by
  have hq := fun w => Lib.run_eql_slice_nil (P := Tryd.prog) w 22 5 (some a) zs.length c 0 0 Tryd.underlying22
  have hmk := run_make_row' (P := Tryd.prog) 22 5 (.int .u8 0) 1 Tryd.underlying22 Tryd.info5 rfl .i64 .i64 zs.length (by omega) (by omega)
  rw [clA_zero] at hmk
  go_enter Tryd.func7, Tryd.ntmps7
  go_wp2
  go_loopw [4] (fun i wr => ∃ k : Nat, k ≤ zs.length ∧ i = .int .i64 k ∧ wr = w.alloc (.cells (clA zs k) 5)) (fun i _ => zs.length - (intOf i).toNat)
  case atStart => exact ⟨0, Nat.zero_le _, rfl, rfl⟩
  case round =>
    obtain ⟨k, hk, rfl, rfl⟩ := hrel
    by_cases hlt : k < zs.length
    · obtain ⟨b, off, rfl, hb, hc⟩ := ha (by omega)
      have hc1 := hc k hlt
      obtain ⟨v, hv⟩ := clA_at zs k hlt
      have hst : Hid (_ = _) := clA_step zs k hlt
      clear hc
      go_wp2
      exact ⟨⟨k + 1, by omega, by go_num, by rw [hst.out]⟩, by simp [intOf]; omega⟩
    · have : k = zs.length := by omega
      subst this
      go_wp2
      go_ret
      rw [clA_full]
      exact ⟨rfl, rfl⟩

/-! ### zzSameBytesPeerB1 -/
set_option maxHeartbeats 400000 in
theorem same_zero (s1 s2 : Option Addr) (c1 c2 : Nat) (w : World) :
    Calls Tryd.prog 11 #[.slice s1 0 c1, .slice s2 0 c2] w fun e w' => e = .returned (.bool true) ∧ ∃ n, w' = w.drewN n := by
  go_enter Tryd.func11, Tryd.ntmps11
  go_wp2
  go_loop [5] (fun i => i = .int .i64 0) (fun _ => 0)
  case atStart => rfl
  case round =>
    subst hrel
    go_wp2
    go_ret
    exact ⟨rfl, 0, rfl⟩

set_option maxHeartbeats 400000 in
theorem same_pos (b1 o1 b2 o2 c1 c2 : Nat) (zs : List Int) (w : World) (hn : zs.length ≤ 1048576) 
    (h1 : ∀ k, k < zs.length → w.cell? ⟨b1, o1 + k, none⟩ = some (.int .u8 (zs.getD k 0)))
    (h2 : ∀ k, k < zs.length → w.cell? ⟨b2, o2 + k, none⟩ = some (.int .u8 (zs.getD k 0))) :
    Calls Tryd.prog 11 #[.slice (some ⟨b1, o1, none⟩) zs.length c1, .slice (some ⟨b2, o2, none⟩) zs.length c2] w fun e w' => e = .returned (.bool true) ∧ ∃ n, w' = w.drewN n := by
  go_enter Tryd.func11, Tryd.ntmps11
  go_wp2
  go_loopw [5] (fun i wr => ∃ k n : Nat, k ≤ zs.length ∧ i = .int .i64 k ∧ wr = w.drewN n) (fun i _ => zs.length - (intOf i).toNat)
  case atStart => exact ⟨0, 0, Nat.zero_le _, rfl, rfl⟩
  case round =>
    obtain ⟨k, n, hk, rfl, rfl⟩ := hrel
    by_cases hlt : k < zs.length
    · have g1 := h1 k hlt
      have g2 := h2 k hlt
      clear h1 h2
      have hI : (k : Int) < (zs.length : Int) := by omega
      go_wp2
      go_quiet (fail)
      go_wp2
      exact ⟨⟨k + 1, n + nq, by omega, by go_num, rfl⟩, by simp [intOf]; omega⟩
    · go_wp2
      go_ret
      exact ⟨rfl, n, rfl⟩

/-! ### unread, Last -/
theorem inc_cell {w : World} {ib : Nat} {typ sz : Int} {rb : Nat} {body err : Value} {last : Bool} (h : w.heap[ib]? = some (.cells (inc typ sz rb body err last) 36 (0, 0))) :
    w.cell? ⟨ib, 0, none⟩ = some (.int .u8 typ) ∧ w.cell? ⟨ib, 1, none⟩ = some (.int .i64 sz) ∧ w.cell? ⟨ib, 2, none⟩ = some (.iface 42 (.pointer (some ⟨rb, 0, none⟩))) ∧ w.cell? ⟨ib, 3, none⟩ = some body ∧ w.cell? ⟨ib, 4, none⟩ = some err ∧
      w.cell? ⟨ib, 5, none⟩ = some (.bool last) ∧ ∀ o, w.frozen? ⟨ib, o, none⟩ = false := by
  simp [World.cell?, World.frozen?, h, inc]

set_option maxHeartbeats 400000 in
theorem unread_yes (ib : Nat) (typ sz : Int) (rb : Nat) (last : Bool) (w : World) (h : w.heap[ib]? = some (.cells (inc typ sz rb (.slice none 0 0) .nilIface last) 36 (0, 0))) :
    Calls Tryd.prog 9 #[.pointer (some ⟨ib, 0, none⟩)] w fun e w' => e = .returned (.bool (decide (0 < sz))) ∧ w' = w := by
  obtain ⟨c0, c1, c2, c3, c4, c5, cf⟩ := inc_cell h
  clear h c0 c2 c5 cf
  have hq := fun w => Lib.run_eql_slice_nil (P := Tryd.prog) w 22 5 none 0 0 0 0 Tryd.underlying22
  by_cases hs : 0 < sz
  · go_enter Tryd.func9, Tryd.ntmps9
    go_wp2
    go_ret
    simp [hs]
  · go_enter Tryd.func9, Tryd.ntmps9
    go_wp2
    go_ret
    simp [hs]

set_option maxHeartbeats 400000 in
/-- The body has come. -/
theorem unread_body (ib : Nat) (typ sz : Int) (rb : Nat) (a : Addr) (n c : Nat) (err : Value) (last : Bool) (w : World) (h : w.heap[ib]? = some (.cells (inc typ sz rb (.slice (some a) n c) err last) 36 (0, 0))) :
    Calls Tryd.prog 9 #[.pointer (some ⟨ib, 0, none⟩)] w fun e w' => e = .returned (.bool false) ∧ w' = w := by
  obtain ⟨c0, c1, c2, c3, c4, c5, cf⟩ := inc_cell h
  clear h c0 c2 c5 cf
  have hq := fun w => Lib.run_eql_slice_nil (P := Tryd.prog) w 22 5 (some a) n c 0 0 Tryd.underlying22
  by_cases hs : 0 < sz
  · go_enter Tryd.func9, Tryd.ntmps9
    go_wp2
    go_ret
    exact ⟨rfl, rfl⟩
  · go_enter Tryd.func9, Tryd.ntmps9
    go_wp2
    go_ret
    exact ⟨rfl, rfl⟩

set_option maxHeartbeats 400000 in
/-- The body could not be read. -/
theorem unread_err (ib : Nat) (typ sz : Int) (rb : Nat) (t : TypeId) (v : Value) (last : Bool) (w : World) (h : w.heap[ib]? = some (.cells (inc typ sz rb (.slice none 0 0) (.iface t v) last) 36 (0, 0))) :
    Calls Tryd.prog 9 #[.pointer (some ⟨ib, 0, none⟩)] w fun e w' => e = .returned (.bool false) ∧ w' = w := by
  obtain ⟨c0, c1, c2, c3, c4, c5, cf⟩ := inc_cell h
  clear h c0 c2 c5 cf
  have hq := fun w => Lib.run_eql_slice_nil (P := Tryd.prog) w 22 5 none 0 0 0 0 Tryd.underlying22
  by_cases hs : 0 < sz
  · go_enter Tryd.func9, Tryd.ntmps9
    go_wp2
    go_ret
    exact ⟨rfl, rfl⟩
  · go_enter Tryd.func9, Tryd.ntmps9
    go_wp2
    go_ret
    exact ⟨rfl, rfl⟩

set_option maxHeartbeats 400000 in
theorem last_any (ib : Nat) (typ sz : Int) (rb : Nat) (body err : Value) (last : Bool) (w : World) (h : w.heap[ib]? = some (.cells (inc typ sz rb body err last) 36 (0, 0))) :
    Calls Tryd.prog 15 #[.pointer (some ⟨ib, 0, none⟩)] w fun e w' => e = .returned (.tuple #[]) ∧ w' = w.setCell ⟨ib, 5, none⟩ (.bool true) := by
  obtain ⟨c0, c1, c2, c3, c4, c5, cf⟩ := inc_cell h
  clear h c0 c1 c2 c3 c4
  go_enter Tryd.func15, Tryd.ntmps15
  go_wp2
  go_end0
  exact ⟨rfl, rfl⟩

/-! ### the size guards -/
set_option maxHeartbeats 400000 in
theorem guard14 (t s : Int) (so : Option Addr) (n c : Nat) (w : World) (hn : n ≤ 1048576) :
    Calls Tryd.prog 14 #[.int .u8 t, .int .i64 s, .slice so n c] w fun e w' => e = .returned (.bool true) ∧ w' = w := by
  have h1 : ¬ (1048576 : Int) < (n : Int) := by omega
  go_enter Tryd.func14, Tryd.ntmps14
  go_wp2
  go_ret
  exact ⟨rfl, rfl⟩
set_option maxHeartbeats 400000 in
theorem guard12 (t s t2 s2 : Int) (so : Option Addr) (n c : Nat) (w : World) (hn : n ≤ 1048576) :
    Calls Tryd.prog 12 #[.int .u8 t, .int .i64 s, .int .u8 t2, .int .i64 s2, .slice so n c] w fun e w' => e = .returned (.bool true) ∧ w' = w := by
  have h1 : ¬ (1048576 : Int) < (n : Int) := by omega
  go_enter Tryd.func12, Tryd.ntmps12
  go_wp2
  go_ret
  exact ⟨rfl, rfl⟩
set_option maxHeartbeats 400000 in
theorem guard6_no (t s : Int) (so : Option Addr) (n c : Nat) (w : World) (hn : 1048576 < n) :
    Calls Tryd.prog 6 #[.int .u8 t, .int .i64 s, .slice so n c] w fun e w' => e = .returned (.bool false) ∧ w' = w := by
  have h1 : (1048576 : Int) < (n : Int) := by omega
  go_enter Tryd.func6, Tryd.ntmps6
  go_wp2
  go_ret
  exact ⟨rfl, rfl⟩
set_option maxHeartbeats 400000 in
theorem guard14_no (t s : Int) (so : Option Addr) (n c : Nat) (w : World) (hn : 1048576 < n) :
    Calls Tryd.prog 14 #[.int .u8 t, .int .i64 s, .slice so n c] w fun e w' => e = .returned (.bool false) ∧ w' = w := by
  have h1 : (1048576 : Int) < (n : Int) := by omega
  go_enter Tryd.func14, Tryd.ntmps14
  go_wp2
  go_ret
  exact ⟨rfl, rfl⟩
set_option maxHeartbeats 400000 in
theorem guard12_no (t s t2 s2 : Int) (so : Option Addr) (n c : Nat) (w : World) (hn : 1048576 < n) :
    Calls Tryd.prog 12 #[.int .u8 t, .int .i64 s, .int .u8 t2, .int .i64 s2, .slice so n c] w fun e w' => e = .returned (.bool false) ∧ w' = w := by
  have h1 : (1048576 : Int) < (n : Int) := by omega
  go_enter Tryd.func12, Tryd.ntmps12
  go_wp2
  go_ret
  exact ⟨rfl, rfl⟩

/-! ### Body, asked again -/
set_option maxHeartbeats 400000 in
theorem body_again (ib : Nat) (typ sz : Int) (rb : Nat) (a : Addr) (n c : Nat) (err : Value) (last : Bool) (w : World) (h : w.heap[ib]? = some (.cells (inc typ sz rb (.slice (some a) n c) err last) 36 (0, 0))) :
    Calls Tryd.prog 10 #[.pointer (some ⟨ib, 0, none⟩)] w fun e w' => e = .returned (.tuple #[.slice (some a) n c, err]) ∧ ∃ m, w' = w.drewN m := by
  obtain ⟨c0, c1, c2, c3, c4, c5, cf⟩ := inc_cell h
  clear h c0 c1 c2 c5 cf
  have hq := fun w => Lib.run_eql_slice_nil (P := Tryd.prog) w 22 5 (some a) n c 0 0 Tryd.underlying22
  go_enter Tryd.func10, Tryd.ntmps10
  go_wp2
  go_quiet (fail)
  go_wp2
  go_ret2
  exact ⟨rfl, _, rfl⟩
set_option maxHeartbeats 400000 in
theorem body_err_again (ib : Nat) (typ sz : Int) (rb : Nat) (t : TypeId) (v : Value) (last : Bool) (w : World) (h : w.heap[ib]? = some (.cells (inc typ sz rb (.slice none 0 0) (.iface t v) last) 36 (0, 0))) :
    Calls Tryd.prog 10 #[.pointer (some ⟨ib, 0, none⟩)] w fun e w' => e = .returned (.tuple #[.slice none 0 0, .iface t v]) ∧ ∃ m, w' = w.drewN m := by
  obtain ⟨c0, c1, c2, c3, c4, c5, cf⟩ := inc_cell h
  clear h c0 c1 c2 c5 cf
  have hq := fun w => Lib.run_eql_slice_nil (P := Tryd.prog) w 22 5 none 0 0 0 0 Tryd.underlying22
  go_enter Tryd.func10, Tryd.ntmps10
  go_wp2
  go_quiet (fail)
  go_wp2
  go_ret2
  exact ⟨rfl, _, rfl⟩

end Go.Proofs.Qxb6615591aDoor
