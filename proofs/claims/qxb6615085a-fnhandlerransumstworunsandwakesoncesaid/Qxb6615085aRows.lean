/-
  No cell of these rows narrows 'for every input' (looked for: loops, veiled, ifaces, maps, wideKeys, modest, calm, conditions, laid).
  DERIVED. THE GIVEN ROWS OF THIS SEAT. 2 by the template 'for every input the law returns true; each argument reads behind the call as it read before'; 0 by the template 'total and deterministic' (their statements: Qxb6615085aTotals.lean).
  GIVEN WITH THE SEED: the statements are not yours to turn. If you find one false, say at which input.
  Laid BY PROGRAM, IN A SANDBOX (cutbox-rows.mjs): the forced cells as the released guide's own fill.sh prints them over the translation 3401a99cc02a4fb0… (all of the seat's roots in one cut). By AI agents, Wed Nov 11 2026. No macro, syntax, notation, axiom, sorry.
-/
import Derived.Test.Qxb6615085aChecked
import GoSem.Claim
import GoSem.ClaimJoined
import GoSem.ClaimMapViews
import Derived.JoinedTies
import Derived.KernelRfl
namespace Go.Proofs.Qxb6615085a
/- THE CELL 'sum', in the pinned program and in every row, IS THE sha256 OF THE DUMP (.gsa) THAT Qxb6615085aProg.lean LOADS. Nothing in Lean hashes anything: it is a label: what it is worth is what the hold of that sum in a sandbox is worth. -/
noncomputable def Try.pinned : Pinned := { name := "qxb6615085a", sum := "3401a99cc02a4fb0cd3571a134c164a482151e64b1ed9ac811aac68d49e3b09b", checked := Try.checked }
namespace Rows
def none {H : Type} : Left H := { results := [], args := [] }

/-- 'zzlaws_root_b1.FnHandlerRanSumsTwoRunsAndWakesOnce': WHATEVER THE INPUT: true; the input reads as it did. -/
def fnHandlerRanSumsTwoRunsAndWakesOnceSpec : ChangeSpec := { name := "fnHandlerRanSumsTwoRunsAndWakesOnce", fn := fun _ => fun
  | [d1, d2, d3, d4, d5] => { results := [.lit (.bool true)], args := [d1, d2, d3, d4, d5] }
  | _ => none }
def fnHandlerRanSumsTwoRunsAndWakesOnceRow : OpenClaim := { program := "qxb6615085a", sum := "3401a99cc02a4fb0cd3571a134c164a482151e64b1ed9ac811aac68d49e3b09b", func := "example.com/fair-lease/fair-lease/zzlaws_root_b1.FnHandlerRanSumsTwoRunsAndWakesOnce", spec := "fnHandlerRanSumsTwoRunsAndWakesOnce", inPlace := ["sync/atomic.StoreInt64", "sync/atomic.AddInt64", "sync/atomic.LoadInt64"], apart := false }
def FnHandlerRanSumsTwoRunsAndWakesOnceSaid : Prop := fnHandlerRanSumsTwoRunsAndWakesOnceRow.holds Try.pinned (OpenSpec.ofChange fnHandlerRanSumsTwoRunsAndWakesOnceSpec)

/-- ITS FALSE NEIGHBOUR: 'it returns false'. Refute it at one input. -/
def fnHandlerRanSumsTwoRunsAndWakesOnceWrong : ChangeSpec := { name := "fnHandlerRanSumsTwoRunsAndWakesOnce", fn := fun _ => fun
  | [d1, d2, d3, d4, d5] => { results := [.lit (.bool false)], args := [d1, d2, d3, d4, d5] }
  | _ => none }
def FnHandlerRanSumsTwoRunsAndWakesOnceWrongFalsely : Prop := fnHandlerRanSumsTwoRunsAndWakesOnceRow.holds Try.pinned (OpenSpec.ofChange fnHandlerRanSumsTwoRunsAndWakesOnceWrong)

/-- 'zzlaws_root_b1.FnRoomShiftsByJobsHanded': WHATEVER THE INPUT: true; the input reads as it did. -/
def fnRoomShiftsByJobsHandedSpec : ChangeSpec := { name := "fnRoomShiftsByJobsHanded", fn := fun _ => fun
  | [d1, d2, d3, d4, d5, d6, d7] => { results := [.lit (.bool true)], args := [d1, d2, d3, d4, d5, d6, d7] }
  | _ => none }
def fnRoomShiftsByJobsHandedRow : OpenClaim := { program := "qxb6615085a", sum := "3401a99cc02a4fb0cd3571a134c164a482151e64b1ed9ac811aac68d49e3b09b", func := "example.com/fair-lease/fair-lease/zzlaws_root_b1.FnRoomShiftsByJobsHanded", spec := "fnRoomShiftsByJobsHanded", inPlace := ["sync/atomic.StoreInt64", "sync/atomic.AddInt64", "sync/atomic.LoadInt64"], apart := false }
def FnRoomShiftsByJobsHandedSaid : Prop := fnRoomShiftsByJobsHandedRow.holds Try.pinned (OpenSpec.ofChange fnRoomShiftsByJobsHandedSpec)

/-- ITS FALSE NEIGHBOUR: 'it returns false'. Refute it at one input. -/
def fnRoomShiftsByJobsHandedWrong : ChangeSpec := { name := "fnRoomShiftsByJobsHanded", fn := fun _ => fun
  | [d1, d2, d3, d4, d5, d6, d7] => { results := [.lit (.bool false)], args := [d1, d2, d3, d4, d5, d6, d7] }
  | _ => none }
def FnRoomShiftsByJobsHandedWrongFalsely : Prop := fnRoomShiftsByJobsHandedRow.holds Try.pinned (OpenSpec.ofChange fnRoomShiftsByJobsHandedWrong)

end Rows
end Go.Proofs.Qxb6615085a
