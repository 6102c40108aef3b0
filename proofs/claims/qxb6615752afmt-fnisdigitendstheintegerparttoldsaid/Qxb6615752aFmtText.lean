/-
  Seat b6615752aF. fmt's text told: it is short.
-/
import Derived.Test.Qxb6615752aFmtA
import Derived.ProofKit
import Derived.Stop.JoinedAt
import Derived.Stop.JoinedTold
import Derived.Stop.FmtTextKit
import Derived.Stop.FmtTextVerbs
import Derived.Stop.FmtRuneSmall
namespace Go.Proofs.Qxb6615752aFmt
open Go.RowKit Go.Kit Go.Extern.Stop Go.Stop Go.Extern

-- "invalid character %q"
theorem t_parse : (FmtText.parse [105, 110, 118, 97, 108, 105, 100, 32, 99, 104, 97, 114, 97, 99, 116, 101, 114, 32, 37, 113]).map FmtText.glue = some [.lit [105, 110, 118, 97, 108, 105, 100, 32, 99, 104, 97, 114, 97, 99, 116, 101, 114, 32], .verb {} 113] := by rfl
def said (c : Int) : List UInt8 := [105, 110, 118, 97, 108, 105, 100, 32, 99, 104, 97, 114, 97, 99, 116, 101, 114, 32] ++ FmtText.quoteRune false c.toNat
theorem t_text (c : Int) (h0 : 0 ≤ c) (h1 : c ≤ 255) : FmtText.text "fmt.Sprintf" (reading c) = some (said c) := by
  have hw : (Lit.int .u8 c).wf = true := by simp [Lit.wf, IntKind.min, IntKind.max, IntKind.signed, IntKind.bits]; omega
  have e : (c % 18446744073709551616).toNat = c.toNat := by omega
  rw [reading, FmtText.text_sprintf_glued t_parse (FmtText.operands_cons (FmtText.operand_int_at (sh := Tryf.shape5) (k := .u8) rfl rfl c hw) FmtText.operands_nil), e]
  have hp : c.toNat ≤ 1114111 := by omega
  simp [FmtText.render, FmtText.printArg_q_int _ _ _ _ hp, said]
theorem short_told (F : Interp) : Short F.told := by
  intro c h0 h1
  have hl := quoteRune_len c.toNat
  have hin := told_string F (t_text c h0 h1) (by simp [said]; omega)
  have hL : (FmtStop.textOf (F.told "fmt.Sprintf" (reading c) 0)).data.toList = said c := by rw [textOf_list, hin]
  have hs : (FmtStop.textOf (F.told "fmt.Sprintf" (reading c) 0)).size = (said c).length := by rw [← hL]; rfl
  rw [hs]
  simp [said]
  omega
end Go.Proofs.Qxb6615752aFmt
