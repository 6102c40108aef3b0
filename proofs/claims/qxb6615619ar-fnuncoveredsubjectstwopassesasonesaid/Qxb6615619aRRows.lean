/-
  No cell of these rows narrows 'for every input' (looked for: loops, veiled, ifaces, maps, wideKeys, modest, calm, conditions, laid).
  DERIVED. THE GIVEN ROWS OF THIS SEAT. 2 by the template 'for every input the law returns true; each argument reads behind the call as it read before'; 0 by the template 'total and deterministic' (their statements: Qxb6615619aRTotals.lean).
  GIVEN WITH THE SEED: the statements are not yours to turn. If you find one false, say at which input.
  Laid BY PROGRAM, IN A SANDBOX (cutbox-rows.mjs): the forced cells as the released guide's own fill.sh prints them over the translation 9dcf0ba90806f91e… (all of the seat's roots in one cut). By AI agents, Wed Nov 11 2026. No macro, syntax, notation, axiom, sorry.
-/
import Derived.Test.Qxb6615619aRChecked
import GoSem.Claim
import GoSem.ClaimJoined
import GoSem.ClaimMapViews
import Derived.JoinedTies
import Derived.KernelRfl
namespace Go.Proofs.Qxb6615619aR
/- THE CELL 'sum', in the pinned program and in every row, IS THE sha256 OF THE DUMP (.gsa) THAT Qxb6615619aRProg.lean LOADS. Nothing in Lean hashes anything: it is a label: what it is worth is what the hold of that sum in a sandbox is worth. -/
noncomputable def Try.pinned : Pinned := { name := "qxb6615619ar", sum := "9dcf0ba90806f91ec6f0f9ea506ed0dd5fd0db8fcd945fbf305fca64198fdd3c", checked := Try.checked }
namespace Rows
def none {H : Type} : Left H := { results := [], args := [] }

/-- 'zzlaws_authz_b1.FnUncoveredSubjectsTwoPassesAsOne': WHATEVER THE INPUT: true; the input reads as it did. -/
def fnUncoveredSubjectsTwoPassesAsOneSpec : ChangeSpec := { name := "fnUncoveredSubjectsTwoPassesAsOne", fn := fun _ => fun
  | [d1, d2, d3, d4] => { results := [.lit (.bool true)], args := [d1, d2, d3, d4] }
  | _ => none }
def fnUncoveredSubjectsTwoPassesAsOneRow : OpenClaim := { program := "qxb6615619ar", sum := "9dcf0ba90806f91ec6f0f9ea506ed0dd5fd0db8fcd945fbf305fca64198fdd3c", func := "example.com/verdict/verdict/zzlaws_authz_b1.FnUncoveredSubjectsTwoPassesAsOne", spec := "fnUncoveredSubjectsTwoPassesAsOne", unfollowed := true, recurses := true, apart := false }
def FnUncoveredSubjectsTwoPassesAsOneSaid : Prop := fnUncoveredSubjectsTwoPassesAsOneRow.holds Try.pinned (OpenSpec.ofChange fnUncoveredSubjectsTwoPassesAsOneSpec)

/-- ITS FALSE NEIGHBOUR: 'it returns false'. Refute it at one input. -/
def fnUncoveredSubjectsTwoPassesAsOneWrong : ChangeSpec := { name := "fnUncoveredSubjectsTwoPassesAsOne", fn := fun _ => fun
  | [d1, d2, d3, d4] => { results := [.lit (.bool false)], args := [d1, d2, d3, d4] }
  | _ => none }
def FnUncoveredSubjectsTwoPassesAsOneWrongFalsely : Prop := fnUncoveredSubjectsTwoPassesAsOneRow.holds Try.pinned (OpenSpec.ofChange fnUncoveredSubjectsTwoPassesAsOneWrong)

/-- 'zzlaws_authz_b1.FnUncoveredSubjectsAnyCut': WHATEVER THE INPUT: true; the input reads as it did. -/
def fnUncoveredSubjectsAnyCutSpec : ChangeSpec := { name := "fnUncoveredSubjectsAnyCut", fn := fun _ => fun
  | [d1, d2, d3, d4, d5] => { results := [.lit (.bool true)], args := [d1, d2, d3, d4, d5] }
  | _ => none }
def fnUncoveredSubjectsAnyCutRow : OpenClaim := { program := "qxb6615619ar", sum := "9dcf0ba90806f91ec6f0f9ea506ed0dd5fd0db8fcd945fbf305fca64198fdd3c", func := "example.com/verdict/verdict/zzlaws_authz_b1.FnUncoveredSubjectsAnyCut", spec := "fnUncoveredSubjectsAnyCut", unfollowed := true, recurses := true, apart := false }
def FnUncoveredSubjectsAnyCutSaid : Prop := fnUncoveredSubjectsAnyCutRow.holds Try.pinned (OpenSpec.ofChange fnUncoveredSubjectsAnyCutSpec)

/-- ITS FALSE NEIGHBOUR: 'it returns false'. Refute it at one input. -/
def fnUncoveredSubjectsAnyCutWrong : ChangeSpec := { name := "fnUncoveredSubjectsAnyCut", fn := fun _ => fun
  | [d1, d2, d3, d4, d5] => { results := [.lit (.bool false)], args := [d1, d2, d3, d4, d5] }
  | _ => none }
def FnUncoveredSubjectsAnyCutWrongFalsely : Prop := fnUncoveredSubjectsAnyCutRow.holds Try.pinned (OpenSpec.ofChange fnUncoveredSubjectsAnyCutWrong)

end Rows
end Go.Proofs.Qxb6615619aR
