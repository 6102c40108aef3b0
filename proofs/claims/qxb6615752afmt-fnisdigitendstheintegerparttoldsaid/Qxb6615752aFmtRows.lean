/-
  No cell of these rows narrows 'for every input' (looked for: loops, veiled, ifaces, maps, wideKeys, modest, calm, conditions, laid).
  DERIVED. THE GIVEN ROWS OF THIS SEAT. 2 by the template 'for every input the law returns true; each argument reads behind the call as it read before'; 0 by the template 'total and deterministic' (their statements: Qxb6615752aFmtTotals.lean).
  GIVEN WITH THE SEED: the statements are not yours to turn. If you find one false, say at which input.
  Laid BY PROGRAM, IN A SANDBOX (cutbox-rows.mjs): the forced cells as the released guide's own fill.sh prints them over the translation 921ea4a3885c7561… (all of the seat's roots in one cut). By AI agents, Wed Nov 11 2026. No macro, syntax, notation, axiom, sorry.
-/
import Derived.Test.Qxb6615752aFmtChecked
import GoSem.Claim
import GoSem.ClaimJoined
import GoSem.ClaimMapViews
import Derived.JoinedTies
import Derived.KernelRfl
namespace Go.Proofs.Qxb6615752aFmt
/- THE CELL 'sum', in the pinned program and in every row, IS THE sha256 OF THE DUMP (.gsa) THAT Qxb6615752aFmtProg.lean LOADS. Nothing in Lean hashes anything: it is a label: what it is worth is what the hold of that sum in a sandbox is worth. -/
noncomputable def Tryf.pinned : Pinned := { name := "qxb6615752afmt", sum := "921ea4a3885c7561d26365b8d6cb300d96161db86e4ad0a83f0e487429785b90", checked := Tryf.checked }
namespace Rows
def none {H : Type} : Left H := { results := [], args := [] }

/-- 'zzlaws_pkg_lazyjson_b1.FnIsDigitAgreesWithOneByteNumbers': WHATEVER THE INPUT: true; the input reads as it did. -/
def fnIsDigitAgreesWithOneByteNumbersSpec : ChangeSpec := { name := "fnIsDigitAgreesWithOneByteNumbers", fn := fun _ => fun
  | [d] => { results := [.lit (.bool true)], args := [d] }
  | _ => none }
def fnIsDigitAgreesWithOneByteNumbersRow : OpenClaim := { program := "qxb6615752afmt", sum := "921ea4a3885c7561d26365b8d6cb300d96161db86e4ad0a83f0e487429785b90", func := "example.com/keelroot/keelroot/zzlaws_pkg_lazyjson_b1.FnIsDigitAgreesWithOneByteNumbers", spec := "fnIsDigitAgreesWithOneByteNumbers", stops := ["fmt.Sprintf"], inPlace := ["fmt.Sprintf"], unfollowed := true, recurses := true, apart := false }
/-- NO THEOREM (fmt's text is open here; it may be false): for the released tool's asking of the row's closed facts alone. THE STATEMENT IS 'FnIsDigitAgreesWithOneByteNumbersToldSaid' (Qxb6615752aFmtCards.lean). -/
def FnIsDigitAgreesWithOneByteNumbersFormAsk : Prop := fnIsDigitAgreesWithOneByteNumbersRow.holds Tryf.pinned (OpenSpec.ofChange fnIsDigitAgreesWithOneByteNumbersSpec)

/-- ITS FALSE NEIGHBOUR: 'it returns false'. Refute it at one input. -/
def fnIsDigitAgreesWithOneByteNumbersWrong : ChangeSpec := { name := "fnIsDigitAgreesWithOneByteNumbers", fn := fun _ => fun
  | [d] => { results := [.lit (.bool false)], args := [d] }
  | _ => none }
def FnIsDigitAgreesWithOneByteNumbersWrongFormAsk : Prop := fnIsDigitAgreesWithOneByteNumbersRow.holds Tryf.pinned (OpenSpec.ofChange fnIsDigitAgreesWithOneByteNumbersWrong)

/-- 'zzlaws_pkg_lazyjson_b1.FnIsDigitEndsTheIntegerPart': WHATEVER THE INPUT: true; the input reads as it did. -/
def fnIsDigitEndsTheIntegerPartSpec : ChangeSpec := { name := "fnIsDigitEndsTheIntegerPart", fn := fun _ => fun
  | [d1, d2] => { results := [.lit (.bool true)], args := [d1, d2] }
  | _ => none }
def fnIsDigitEndsTheIntegerPartRow : OpenClaim := { program := "qxb6615752afmt", sum := "921ea4a3885c7561d26365b8d6cb300d96161db86e4ad0a83f0e487429785b90", func := "example.com/keelroot/keelroot/zzlaws_pkg_lazyjson_b1.FnIsDigitEndsTheIntegerPart", spec := "fnIsDigitEndsTheIntegerPart", stops := ["fmt.Sprintf"], inPlace := ["fmt.Sprintf"], unfollowed := true, recurses := true, apart := false }
/-- NO THEOREM (fmt's text is open here; it may be false): for the released tool's asking of the row's closed facts alone. THE STATEMENT IS 'FnIsDigitEndsTheIntegerPartToldSaid' (Qxb6615752aFmtCards.lean). -/
def FnIsDigitEndsTheIntegerPartFormAsk : Prop := fnIsDigitEndsTheIntegerPartRow.holds Tryf.pinned (OpenSpec.ofChange fnIsDigitEndsTheIntegerPartSpec)

/-- ITS FALSE NEIGHBOUR: 'it returns false'. Refute it at one input. -/
def fnIsDigitEndsTheIntegerPartWrong : ChangeSpec := { name := "fnIsDigitEndsTheIntegerPart", fn := fun _ => fun
  | [d1, d2] => { results := [.lit (.bool false)], args := [d1, d2] }
  | _ => none }
def FnIsDigitEndsTheIntegerPartWrongFormAsk : Prop := fnIsDigitEndsTheIntegerPartRow.holds Tryf.pinned (OpenSpec.ofChange fnIsDigitEndsTheIntegerPartWrong)

end Rows
end Go.Proofs.Qxb6615752aFmt
