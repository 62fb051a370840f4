/-
  DERIVED. GIVEN WITH THE SEED: THE CARDS: each row of YtnlpjncljbaapaaGreatDoorRows.lean that lists a variable, with what it lists TIED to the program's text (the seventh form; the later family's looks); each row that meets fmt, with fmt's text TOLD by the authors' own Lean function (tested against real Go, not proved from fmt's source: count such statements apart). THE CARD IS WHAT COUNTS. Prove the row's statement (the work); the ties are given (YtnlpjncljbaapaaGreatDoorTie.lean); close each card by the builder's one call (the guide's Derived/Test/ToyasCard.lean, 'card_holds'). Laid BY PROGRAM, IN A SANDBOX (cutbox-door.mjs). By AI agents, Wed Nov 11 2026. No macro, syntax, notation, axiom, sorry.
-/
import Derived.Test.YtnlpjncljbaapaaGreatDoorRows
import GoSem.ClaimSeven
namespace Go.Proofs.YtnlpjncljbaapaaGreatDoor
namespace Rows

/-- THE TIED CARD OF 'laws.FnSetBad'. -/
def fnSetBadCard : Claim7 := { stood := { row := fnSetBadRow, standIns := [], harness := (true, "f7a930e5fc514c564b3f37d2a3e01784d0066a9a0fbdd7fe0593d7d92aba3057"), looks := true }, kinds := [], alts := [], laidByText := true, laidKinds := [.data, .data, .data, .data, .sentinel, .sentinel, .listed, .data, .data, .data, .data, .data, .data, .data, .data, .pinned, .pinned], laidTests := true, laidLooks := .later }
def FnSetBadCardSaid : Prop := Claim7.holds Tryz.pinned (.plain (OpenSpec.ofChange fnSetBadSpec)) fnSetBadCard

/-- THE TIED CARD OF 'laws.FnSetJoined'. -/
def fnSetJoinedCard : Claim7 := { stood := { row := fnSetJoinedRow, standIns := [], harness := (true, "f7a930e5fc514c564b3f37d2a3e01784d0066a9a0fbdd7fe0593d7d92aba3057"), looks := true }, kinds := [], alts := [], laidByText := true, laidKinds := [.data, .data, .data, .data, .sentinel, .sentinel, .listed, .data, .data, .data, .data, .data, .data, .data, .data, .pinned, .pinned], laidTests := true, laidLooks := .later }
def FnSetJoinedCardSaid : Prop := Claim7.holds Tryz.pinned (.plain (OpenSpec.ofChange fnSetJoinedSpec)) fnSetJoinedCard

/-- THE TIED CARD OF 'laws.FnSetOrder'. -/
def fnSetOrderCard : Claim7 := { stood := { row := fnSetOrderRow, standIns := [], harness := (true, "f7a930e5fc514c564b3f37d2a3e01784d0066a9a0fbdd7fe0593d7d92aba3057"), looks := true }, kinds := [], alts := [], laidByText := true, laidKinds := [.data, .data, .data, .data, .sentinel, .sentinel, .listed, .data, .data, .data, .data, .data, .data, .data, .data, .pinned, .pinned], laidTests := true, laidLooks := .later }
def FnSetOrderCardSaid : Prop := Claim7.holds Tryz.pinned (.plain (OpenSpec.ofChange fnSetOrderSpec)) fnSetOrderCard

/-- THE TIED CARD OF 'laws.FnSetRead'. -/
def fnSetReadCard : Claim7 := { stood := { row := fnSetReadRow, standIns := [], harness := (true, "f7a930e5fc514c564b3f37d2a3e01784d0066a9a0fbdd7fe0593d7d92aba3057"), looks := true }, kinds := [], alts := [], laidByText := true, laidKinds := [.data, .data, .data, .data, .sentinel, .sentinel, .listed, .data, .data, .data, .data, .data, .data, .data, .data, .pinned, .pinned], laidTests := true, laidLooks := .later }
def FnSetReadCardSaid : Prop := Claim7.holds Tryz.pinned (.plain (OpenSpec.ofChange fnSetReadSpec)) fnSetReadCard

/-- THE TIED CARD OF 'laws.FnSetWritten'. -/
def fnSetWrittenCard : Claim7 := { stood := { row := fnSetWrittenRow, standIns := [], harness := (true, "f7a930e5fc514c564b3f37d2a3e01784d0066a9a0fbdd7fe0593d7d92aba3057"), looks := true }, kinds := [], alts := [], laidByText := true, laidKinds := [.data, .data, .data, .data, .sentinel, .sentinel, .listed, .data, .data, .data, .data, .data, .data, .data, .data, .pinned, .pinned], laidTests := true, laidLooks := .later }
def FnSetWrittenCardSaid : Prop := Claim7.holds Tryz.pinned (.plain (OpenSpec.ofChange fnSetWrittenSpec)) fnSetWrittenCard

/-- THE TIED CARD OF 'laws.FnSetBack'. -/
def fnSetBackCard : Claim7 := { stood := { row := fnSetBackRow, standIns := [], harness := (true, "f7a930e5fc514c564b3f37d2a3e01784d0066a9a0fbdd7fe0593d7d92aba3057"), looks := true }, kinds := [], alts := [], laidByText := true, laidKinds := [.data, .data, .data, .data, .sentinel, .sentinel, .listed, .data, .data, .data, .data, .data, .data, .data, .data, .pinned, .pinned], laidTests := true, laidLooks := .later }
def FnSetBackCardSaid : Prop := Claim7.holds Tryz.pinned (.plain (OpenSpec.ofChange fnSetBackSpec)) fnSetBackCard

/-- THE SECOND FORM's CARD OF 'laws.FnSetBad'. -/
def fnSetBadUptoCard : Claim7 := { stood := { row := fnSetBadUptoRow, standIns := [], harness := (true, "f7a930e5fc514c564b3f37d2a3e01784d0066a9a0fbdd7fe0593d7d92aba3057"), looks := true }, kinds := [], alts := [], laidByText := true, laidKinds := [.data, .data, .data, .data, .sentinel, .sentinel, .listed, .data, .data, .data, .data, .data, .data, .data, .data, .pinned, .pinned], laidTests := true, laidLooks := .later }
def FnSetBadUptoCardSaid : Prop := Claim7.holds Tryz.pinned (.plain (OpenSpec.upto fnSetBadSpec)) fnSetBadUptoCard

/-- THE SECOND FORM's CARD OF 'laws.FnSetJoined'. -/
def fnSetJoinedUptoCard : Claim7 := { stood := { row := fnSetJoinedUptoRow, standIns := [], harness := (true, "f7a930e5fc514c564b3f37d2a3e01784d0066a9a0fbdd7fe0593d7d92aba3057"), looks := true }, kinds := [], alts := [], laidByText := true, laidKinds := [.data, .data, .data, .data, .sentinel, .sentinel, .listed, .data, .data, .data, .data, .data, .data, .data, .data, .pinned, .pinned], laidTests := true, laidLooks := .later }
def FnSetJoinedUptoCardSaid : Prop := Claim7.holds Tryz.pinned (.plain (OpenSpec.upto fnSetJoinedSpec)) fnSetJoinedUptoCard

/-- THE SECOND FORM's CARD OF 'laws.FnSetOrder'. -/
def fnSetOrderUptoCard : Claim7 := { stood := { row := fnSetOrderUptoRow, standIns := [], harness := (true, "f7a930e5fc514c564b3f37d2a3e01784d0066a9a0fbdd7fe0593d7d92aba3057"), looks := true }, kinds := [], alts := [], laidByText := true, laidKinds := [.data, .data, .data, .data, .sentinel, .sentinel, .listed, .data, .data, .data, .data, .data, .data, .data, .data, .pinned, .pinned], laidTests := true, laidLooks := .later }
def FnSetOrderUptoCardSaid : Prop := Claim7.holds Tryz.pinned (.plain (OpenSpec.upto fnSetOrderSpec)) fnSetOrderUptoCard

/-- THE SECOND FORM's CARD OF 'laws.FnSetRead'. -/
def fnSetReadUptoCard : Claim7 := { stood := { row := fnSetReadUptoRow, standIns := [], harness := (true, "f7a930e5fc514c564b3f37d2a3e01784d0066a9a0fbdd7fe0593d7d92aba3057"), looks := true }, kinds := [], alts := [], laidByText := true, laidKinds := [.data, .data, .data, .data, .sentinel, .sentinel, .listed, .data, .data, .data, .data, .data, .data, .data, .data, .pinned, .pinned], laidTests := true, laidLooks := .later }
def FnSetReadUptoCardSaid : Prop := Claim7.holds Tryz.pinned (.plain (OpenSpec.upto fnSetReadSpec)) fnSetReadUptoCard

/-- THE SECOND FORM's CARD OF 'laws.FnSetWritten'. -/
def fnSetWrittenUptoCard : Claim7 := { stood := { row := fnSetWrittenUptoRow, standIns := [], harness := (true, "f7a930e5fc514c564b3f37d2a3e01784d0066a9a0fbdd7fe0593d7d92aba3057"), looks := true }, kinds := [], alts := [], laidByText := true, laidKinds := [.data, .data, .data, .data, .sentinel, .sentinel, .listed, .data, .data, .data, .data, .data, .data, .data, .data, .pinned, .pinned], laidTests := true, laidLooks := .later }
def FnSetWrittenUptoCardSaid : Prop := Claim7.holds Tryz.pinned (.plain (OpenSpec.upto fnSetWrittenSpec)) fnSetWrittenUptoCard

/-- THE SECOND FORM's CARD OF 'laws.FnSetBack'. -/
def fnSetBackUptoCard : Claim7 := { stood := { row := fnSetBackUptoRow, standIns := [], harness := (true, "f7a930e5fc514c564b3f37d2a3e01784d0066a9a0fbdd7fe0593d7d92aba3057"), looks := true }, kinds := [], alts := [], laidByText := true, laidKinds := [.data, .data, .data, .data, .sentinel, .sentinel, .listed, .data, .data, .data, .data, .data, .data, .data, .data, .pinned, .pinned], laidTests := true, laidLooks := .later }
def FnSetBackUptoCardSaid : Prop := Claim7.holds Tryz.pinned (.plain (OpenSpec.upto fnSetBackSpec)) fnSetBackUptoCard
end Rows
end Go.Proofs.YtnlpjncljbaapaaGreatDoor
