/-
  Seat b6615591aD. The small functions' walks: bytes.NewReader, ZZnewIncoming, ZZnewIncomingPair, unread, Last, the size guards.
-/
import Derived.Test.Qxb6615591aDoorRows
import Derived.WalkKit
import Derived.WalkSpells
import Derived.WalkLawsBesides
namespace Go.Proofs.Qxb6615591aDoor
open Go.RowKit

/-- The cells of an Incoming. -/
def inc (typ sz : Int) (rb : Nat) (body err : Value) (last : Bool) : Array Value :=
  #[.int .u8 typ, .int .i64 sz, .iface 42 (.pointer (some ⟨rb, 0, none⟩)), body, err, .bool last]

set_option maxHeartbeats 400000 in
theorem newReader_any (so : Option Addr) (n c : Nat) (w : World) :
    Calls Tryd.prog 16 #[.slice so n c] w fun e w' => e = .returned (.pointer (some ⟨w.heap.size, 0, none⟩)) ∧ w' = w.alloc (.cells #[.slice so n c, .int .i64 0, .int .i64 (-1)] 47) := by
  go_enter Tryd.func16, Tryd.ntmps16
  go_wp2
  go_ret
  exact ⟨rfl, rfl⟩

set_option maxHeartbeats 400000 in
theorem newIncoming_any (typ sz : Int) (so : Option Addr) (n c : Nat) (w : World) :
    Calls Tryd.prog 8 #[.int .u8 typ, .int .i64 sz, .slice so n c] w fun e w' => e = .returned (.pointer (some ⟨w.heap.size + 1, 0, none⟩)) ∧
      w' = (w.alloc (.cells #[.slice so n c, .int .i64 0, .int .i64 (-1)] 47)).alloc (.cells (inc typ sz w.heap.size (.slice none 0 0) .nilIface false) 36) := by
  go_enter Tryd.func8, Tryd.ntmps8
  go_wp2_with (go_at_call 16; refine (newReader_any _ _ _ _).mono ?_; rintro e w' ⟨rfl, rfl⟩)
  go_ret
  exact ⟨rfl, rfl⟩

set_option maxHeartbeats 400000 in
theorem newPair_any (typ1 sz1 typ2 sz2 : Int) (so : Option Addr) (n c : Nat) (w : World) :
    Calls Tryd.prog 13 #[.int .u8 typ1, .int .i64 sz1, .int .u8 typ2, .int .i64 sz2, .slice so n c] w fun e w' => e = .returned (.tuple #[.pointer (some ⟨w.heap.size + 1, 0, none⟩), .pointer (some ⟨w.heap.size + 2, 0, none⟩)]) ∧
      w' = ((w.alloc (.cells #[.slice so n c, .int .i64 0, .int .i64 (-1)] 47)).alloc (.cells (inc typ1 sz1 w.heap.size (.slice none 0 0) .nilIface false) 36)).alloc (.cells (inc typ2 sz2 w.heap.size (.slice none 0 0) .nilIface false) 36) := by
  go_enter Tryd.func13, Tryd.ntmps13
  go_wp2_with (go_at_call 16; refine (newReader_any _ _ _ _).mono ?_; rintro e w' ⟨rfl, rfl⟩)
  go_ret2
  exact ⟨rfl, rfl⟩

set_option maxHeartbeats 400000 in
theorem guard6 (t s : Int) (so : Option Addr) (n c : Nat) (w : World) (hn : n ≤ 1048576) :
    Calls Tryd.prog 6 #[.int .u8 t, .int .i64 s, .slice so n c] w fun e w' => e = .returned (.bool true) ∧ w' = w := by
  have h1 : ¬ (1048576 : Int) < (n : Int) := by omega
  go_enter Tryd.func6, Tryd.ntmps6
  go_wp2
  go_ret
  exact ⟨rfl, rfl⟩

end Go.Proofs.Qxb6615591aDoor
