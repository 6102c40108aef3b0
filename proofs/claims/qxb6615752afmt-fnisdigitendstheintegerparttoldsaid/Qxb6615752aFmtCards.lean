/-
  DERIVED. GIVEN WITH THE SEED: THE CARDS: each row of Qxb6615752aFmtRows.lean that lists a variable, with what it lists TIED to the program's text (the seventh form; the later family's looks); each row that meets fmt, with fmt's text TOLD by the authors' own Lean function (tested against real Go, not proved from fmt's source: count such statements apart). THE CARD IS WHAT COUNTS. Prove the row's statement (the work); the ties are given (Qxb6615752aFmtTie.lean); close each card by the builder's one call (the guide's Derived/Test/ToyasCard.lean, 'card_holds'). Laid BY PROGRAM, IN A SANDBOX (cutbox-door.mjs). By AI agents, Wed Nov 11 2026. No macro, syntax, notation, axiom, sorry.
-/
import Derived.Test.Qxb6615752aFmtRows
import GoSem.ClaimSeven
namespace Go.Proofs.Qxb6615752aFmt
namespace Rows

/-- THE TOLD CARD OF 'zzlaws_pkg_lazyjson_b1.FnIsDigitAgreesWithOneByteNumbers'. -/
def fnIsDigitAgreesWithOneByteNumbersCard : Claim7 := { stood := { row := fnIsDigitAgreesWithOneByteNumbersRow, standIns := [], harness := (true, "45fb610f503d50c7e9e9b000ab4e2be9ef655cfbe987f2bf31516df62c853135"), looks := false }, told := true, goes := false }
def FnIsDigitAgreesWithOneByteNumbersToldSaid : Prop := Claim7.holds Tryf.pinned (.plain (OpenSpec.ofChange fnIsDigitAgreesWithOneByteNumbersSpec)) fnIsDigitAgreesWithOneByteNumbersCard
/-- ITS FALSE NEIGHBOUR. Refute it at one input. -/
def FnIsDigitAgreesWithOneByteNumbersToldWrongFalsely : Prop := Claim7.holds Tryf.pinned (.plain (OpenSpec.ofChange fnIsDigitAgreesWithOneByteNumbersWrong)) fnIsDigitAgreesWithOneByteNumbersCard

/-- THE TOLD CARD OF 'zzlaws_pkg_lazyjson_b1.FnIsDigitEndsTheIntegerPart'. -/
def fnIsDigitEndsTheIntegerPartCard : Claim7 := { stood := { row := fnIsDigitEndsTheIntegerPartRow, standIns := [], harness := (true, "45fb610f503d50c7e9e9b000ab4e2be9ef655cfbe987f2bf31516df62c853135"), looks := false }, told := true, goes := false }
def FnIsDigitEndsTheIntegerPartToldSaid : Prop := Claim7.holds Tryf.pinned (.plain (OpenSpec.ofChange fnIsDigitEndsTheIntegerPartSpec)) fnIsDigitEndsTheIntegerPartCard
/-- ITS FALSE NEIGHBOUR. Refute it at one input. -/
def FnIsDigitEndsTheIntegerPartToldWrongFalsely : Prop := Claim7.holds Tryf.pinned (.plain (OpenSpec.ofChange fnIsDigitEndsTheIntegerPartWrong)) fnIsDigitEndsTheIntegerPartCard
end Rows
end Go.Proofs.Qxb6615752aFmt
