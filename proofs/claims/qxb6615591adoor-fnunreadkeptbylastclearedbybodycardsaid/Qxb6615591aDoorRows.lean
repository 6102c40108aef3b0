/-
  NARROWER THAN 'FOR EVERY INPUT', by the rows' own cells (each row's printed sentence says how): FnBodyReadsOnceAndClearsUnread: laid · FnBodyTwoFramesSplitTheStreamAtAnyCut: laid · FnUnreadKeptByLastClearedByBody: laid.
  DERIVED. THE GIVEN ROWS OF THIS SEAT. 3 by the template 'for every input the law returns true; each argument reads behind the call as it read before'; 0 by the template 'total and deterministic' (their statements: Qxb6615591aDoorTotals.lean).
  GIVEN WITH THE SEED: the statements are not yours to turn. If you find one false, say at which input.
  Laid BY PROGRAM, IN A SANDBOX (cutbox-rows.mjs): the forced cells as the released guide's own fill.sh prints them over the translation 38cd1269c6f2417b… (all of the seat's roots in one cut). By AI agents, Wed Nov 11 2026. No macro, syntax, notation, axiom, sorry.
-/
import Derived.Test.Qxb6615591aDoorChecked
import GoSem.Claim
import GoSem.ClaimJoined
import GoSem.ClaimMapViews
import Derived.JoinedTies
import Derived.KernelRfl
namespace Go.Proofs.Qxb6615591aDoor
/- THE CELL 'sum', in the pinned program and in every row, IS THE sha256 OF THE DUMP (.gsa) THAT Qxb6615591aDoorProg.lean LOADS. Nothing in Lean hashes anything: it is a label: what it is worth is what the hold of that sum in a sandbox is worth. -/
noncomputable def Tryd.pinned : Pinned := { name := "qxb6615591adoor", sum := "38cd1269c6f2417bb0d5899dcbc7d1ef8f9657a950149a036b85c53b6f19d3d2", checked := Tryd.checked }
namespace Rows
def none {H : Type} : Left H := { results := [], args := [] }

/- WHAT THE LISTED PACKAGE-LEVEL VARIABLES READ AS WHEN THE CALL BEGINS. Each datum BY PROGRAM (the guide's laid-datum.mjs) off the statement by which the dump's own 'gosem.cut.vars' lays the variable. In a bare row this is a premise. The card (Qxb6615591aDoorCards.lean) ties it to the program's text. -/
def laid_io_ErrShortBuffer {H : Type} : DataW H := .iface "*errors.errorString" (.ptr (.agg [.lit (.string [115, 104, 111, 114, 116, 32, 98, 117, 102, 102, 101, 114])]))
def laid_io_EOF {H : Type} : DataW H := .iface "*errors.errorString" (.ptr (.agg [.lit (.string [69, 79, 70])]))
def laid_io_ErrUnexpectedEOF {H : Type} : DataW H := .iface "*errors.errorString" (.ptr (.agg [.lit (.string [117, 110, 101, 120, 112, 101, 99, 116, 101, 100, 32, 69, 79, 70])]))

/-- 'zzlaws_peer_b1.FnBodyReadsOnceAndClearsUnread': WHATEVER THE INPUT: true; the input reads as it did. -/
def fnBodyReadsOnceAndClearsUnreadSpec : ChangeSpec := { name := "fnBodyReadsOnceAndClearsUnread", fn := fun _ => fun
  | [d1, d2, d3] => { results := [.lit (.bool true)], args := [d1, d2, d3] }
  | _ => none }
def fnBodyReadsOnceAndClearsUnreadRow : OpenClaim := { program := "qxb6615591adoor", sum := "38cd1269c6f2417bb0d5899dcbc7d1ef8f9657a950149a036b85c53b6f19d3d2", func := "example.com/gard/gard/zzlaws_peer_b1.FnBodyReadsOnceAndClearsUnread", spec := "fnBodyReadsOnceAndClearsUnread", unfollowed := true, recurses := true, named := ["io.EOF", "io.ErrUnexpectedEOF", "io.ErrShortBuffer"], apart := false, laid := [("io.ErrShortBuffer", laid_io_ErrShortBuffer), ("io.EOF", laid_io_EOF), ("io.ErrUnexpectedEOF", laid_io_ErrUnexpectedEOF)] }
def FnBodyReadsOnceAndClearsUnreadSaid : Prop := fnBodyReadsOnceAndClearsUnreadRow.holds Tryd.pinned (OpenSpec.ofChange fnBodyReadsOnceAndClearsUnreadSpec)

/-- ITS FALSE NEIGHBOUR: 'it returns false'. Refute it at one input. -/
def fnBodyReadsOnceAndClearsUnreadWrong : ChangeSpec := { name := "fnBodyReadsOnceAndClearsUnread", fn := fun _ => fun
  | [d1, d2, d3] => { results := [.lit (.bool false)], args := [d1, d2, d3] }
  | _ => none }
def FnBodyReadsOnceAndClearsUnreadWrongFalsely : Prop := fnBodyReadsOnceAndClearsUnreadRow.holds Tryd.pinned (OpenSpec.ofChange fnBodyReadsOnceAndClearsUnreadWrong)

/-- 'zzlaws_peer_b1.FnBodyTwoFramesSplitTheStreamAtAnyCut': WHATEVER THE INPUT: true; the input reads as it did. -/
def fnBodyTwoFramesSplitTheStreamAtAnyCutSpec : ChangeSpec := { name := "fnBodyTwoFramesSplitTheStreamAtAnyCut", fn := fun _ => fun
  | [d1, d2, d3, d4, d5] => { results := [.lit (.bool true)], args := [d1, d2, d3, d4, d5] }
  | _ => none }
def fnBodyTwoFramesSplitTheStreamAtAnyCutRow : OpenClaim := { program := "qxb6615591adoor", sum := "38cd1269c6f2417bb0d5899dcbc7d1ef8f9657a950149a036b85c53b6f19d3d2", func := "example.com/gard/gard/zzlaws_peer_b1.FnBodyTwoFramesSplitTheStreamAtAnyCut", spec := "fnBodyTwoFramesSplitTheStreamAtAnyCut", unfollowed := true, recurses := true, named := ["io.EOF", "io.ErrUnexpectedEOF", "io.ErrShortBuffer"], apart := false, laid := [("io.ErrShortBuffer", laid_io_ErrShortBuffer), ("io.EOF", laid_io_EOF), ("io.ErrUnexpectedEOF", laid_io_ErrUnexpectedEOF)] }
def FnBodyTwoFramesSplitTheStreamAtAnyCutSaid : Prop := fnBodyTwoFramesSplitTheStreamAtAnyCutRow.holds Tryd.pinned (OpenSpec.ofChange fnBodyTwoFramesSplitTheStreamAtAnyCutSpec)

/-- ITS FALSE NEIGHBOUR: 'it returns false'. Refute it at one input. -/
def fnBodyTwoFramesSplitTheStreamAtAnyCutWrong : ChangeSpec := { name := "fnBodyTwoFramesSplitTheStreamAtAnyCut", fn := fun _ => fun
  | [d1, d2, d3, d4, d5] => { results := [.lit (.bool false)], args := [d1, d2, d3, d4, d5] }
  | _ => none }
def FnBodyTwoFramesSplitTheStreamAtAnyCutWrongFalsely : Prop := fnBodyTwoFramesSplitTheStreamAtAnyCutRow.holds Tryd.pinned (OpenSpec.ofChange fnBodyTwoFramesSplitTheStreamAtAnyCutWrong)

/-- 'zzlaws_peer_b1.FnUnreadKeptByLastClearedByBody': WHATEVER THE INPUT: true; the input reads as it did. -/
def fnUnreadKeptByLastClearedByBodySpec : ChangeSpec := { name := "fnUnreadKeptByLastClearedByBody", fn := fun _ => fun
  | [d1, d2, d3] => { results := [.lit (.bool true)], args := [d1, d2, d3] }
  | _ => none }
def fnUnreadKeptByLastClearedByBodyRow : OpenClaim := { program := "qxb6615591adoor", sum := "38cd1269c6f2417bb0d5899dcbc7d1ef8f9657a950149a036b85c53b6f19d3d2", func := "example.com/gard/gard/zzlaws_peer_b1.FnUnreadKeptByLastClearedByBody", spec := "fnUnreadKeptByLastClearedByBody", unfollowed := true, recurses := true, named := ["io.EOF", "io.ErrUnexpectedEOF", "io.ErrShortBuffer"], apart := false, laid := [("io.ErrShortBuffer", laid_io_ErrShortBuffer), ("io.EOF", laid_io_EOF), ("io.ErrUnexpectedEOF", laid_io_ErrUnexpectedEOF)] }
def FnUnreadKeptByLastClearedByBodySaid : Prop := fnUnreadKeptByLastClearedByBodyRow.holds Tryd.pinned (OpenSpec.ofChange fnUnreadKeptByLastClearedByBodySpec)

/-- ITS FALSE NEIGHBOUR: 'it returns false'. Refute it at one input. -/
def fnUnreadKeptByLastClearedByBodyWrong : ChangeSpec := { name := "fnUnreadKeptByLastClearedByBody", fn := fun _ => fun
  | [d1, d2, d3] => { results := [.lit (.bool false)], args := [d1, d2, d3] }
  | _ => none }
def FnUnreadKeptByLastClearedByBodyWrongFalsely : Prop := fnUnreadKeptByLastClearedByBodyRow.holds Tryd.pinned (OpenSpec.ofChange fnUnreadKeptByLastClearedByBodyWrong)

end Rows
end Go.Proofs.Qxb6615591aDoor
