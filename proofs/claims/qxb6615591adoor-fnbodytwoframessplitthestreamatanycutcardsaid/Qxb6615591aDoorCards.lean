/-
  DERIVED. GIVEN WITH THE SEED: THE CARDS: each row of Qxb6615591aDoorRows.lean that lists a variable, with what it lists TIED to the program's text (the seventh form; the later family's looks); each row that meets fmt, with fmt's text TOLD by the authors' own Lean function (tested against real Go, not proved from fmt's source: count such statements apart). THE CARD IS WHAT COUNTS. Prove the row's statement (the work); the ties are given (Qxb6615591aDoorTie.lean); close each card by the builder's one call (the guide's Derived/Test/ToyasCard.lean, 'card_holds'). Laid BY PROGRAM, IN A SANDBOX (cutbox-door.mjs). By AI agents, Wed Nov 11 2026. No macro, syntax, notation, axiom, sorry.
-/
import Derived.Test.Qxb6615591aDoorRows
import GoSem.ClaimSeven
namespace Go.Proofs.Qxb6615591aDoor
namespace Rows

/-- THE TIED CARD OF 'zzlaws_peer_b1.FnBodyReadsOnceAndClearsUnread'. -/
def fnBodyReadsOnceAndClearsUnreadCard : Claim7 := { stood := { row := fnBodyReadsOnceAndClearsUnreadRow, standIns := [], harness := (true, "888f9d1b3d61e90c77efadb199e1e2202d934de901c8ca03bcd9854c964c7edd"), looks := true }, kinds := [], alts := [], laidByText := true, laidKinds := [.sentinel, .sentinel, .sentinel], laidTests := true, laidLooks := .later }
def FnBodyReadsOnceAndClearsUnreadCardSaid : Prop := Claim7.holds Tryd.pinned (.plain (OpenSpec.ofChange fnBodyReadsOnceAndClearsUnreadSpec)) fnBodyReadsOnceAndClearsUnreadCard

/-- THE TIED CARD OF 'zzlaws_peer_b1.FnBodyTwoFramesSplitTheStreamAtAnyCut'. -/
def fnBodyTwoFramesSplitTheStreamAtAnyCutCard : Claim7 := { stood := { row := fnBodyTwoFramesSplitTheStreamAtAnyCutRow, standIns := [], harness := (true, "888f9d1b3d61e90c77efadb199e1e2202d934de901c8ca03bcd9854c964c7edd"), looks := true }, kinds := [], alts := [], laidByText := true, laidKinds := [.sentinel, .sentinel, .sentinel], laidTests := true, laidLooks := .later }
def FnBodyTwoFramesSplitTheStreamAtAnyCutCardSaid : Prop := Claim7.holds Tryd.pinned (.plain (OpenSpec.ofChange fnBodyTwoFramesSplitTheStreamAtAnyCutSpec)) fnBodyTwoFramesSplitTheStreamAtAnyCutCard

/-- THE TIED CARD OF 'zzlaws_peer_b1.FnUnreadKeptByLastClearedByBody'. -/
def fnUnreadKeptByLastClearedByBodyCard : Claim7 := { stood := { row := fnUnreadKeptByLastClearedByBodyRow, standIns := [], harness := (true, "888f9d1b3d61e90c77efadb199e1e2202d934de901c8ca03bcd9854c964c7edd"), looks := true }, kinds := [], alts := [], laidByText := true, laidKinds := [.sentinel, .sentinel, .sentinel], laidTests := true, laidLooks := .later }
def FnUnreadKeptByLastClearedByBodyCardSaid : Prop := Claim7.holds Tryd.pinned (.plain (OpenSpec.ofChange fnUnreadKeptByLastClearedByBodySpec)) fnUnreadKeptByLastClearedByBodyCard
end Rows
end Go.Proofs.Qxb6615591aDoor
