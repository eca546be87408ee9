/-
  DERIVED. GIVEN WITH THE SEED: THE CARDS: each row of YtapkmjfjikpnlaaGreatDoorRows.lean that lists a variable, with what it lists TIED to the program's text (the seventh form; the later family's looks); each row that meets fmt, with fmt's text TOLD by the authors' own Lean function (tested against real Go, not proved from fmt's source: count such statements apart). THE CARD IS WHAT COUNTS. Prove the row's statement (the work); the ties are given (YtapkmjfjikpnlaaGreatDoorTie.lean); close each card by the builder's one call (the guide's Derived/Test/ToyasCard.lean, 'card_holds'). Laid BY PROGRAM, IN A SANDBOX (cutbox-door.mjs). By AI agents, Wed Nov 11 2026. No macro, syntax, notation, axiom, sorry.
-/
import Derived.Test.YtapkmjfjikpnlaaGreatDoorRows
import GoSem.ClaimSeven
namespace Go.Proofs.YtapkmjfjikpnlaaGreatDoor
namespace Rows

/-- THE TIED CARD OF 'laws.FnMsgJsonMeans'. -/
def fnMsgJsonMeansCard : Claim7 := { stood := { row := fnMsgJsonMeansRow, standIns := [], harness := (true, "3a5b0b6024c5222ec920130fa38a243f40c1c752c3c66374e967e95246a02be9"), looks := true }, kinds := [], alts := [], laidByText := true, laidKinds := [.data, .data, .data, .data, .sentinel, .sentinel, .sentinel, .pinned], laidTests := true, laidLooks := .later }
def FnMsgJsonMeansCardSaid : Prop := Claim7.holds Tryz.pinned (.plain (OpenSpec.ofChange fnMsgJsonMeansSpec)) fnMsgJsonMeansCard

/-- THE TIED CARD OF 'laws.FnMsgJsonReads'. -/
def fnMsgJsonReadsCard : Claim7 := { stood := { row := fnMsgJsonReadsRow, standIns := [], harness := (true, "3a5b0b6024c5222ec920130fa38a243f40c1c752c3c66374e967e95246a02be9"), looks := true }, kinds := [], alts := [], laidByText := true, laidKinds := [.data, .data, .data, .data, .data, .sentinel, .pinned, .pinned, .pinned], laidTests := true, laidLooks := .later }
def FnMsgJsonReadsCardSaid : Prop := Claim7.holds Tryz.pinned (.plain (OpenSpec.ofChange fnMsgJsonReadsSpec)) fnMsgJsonReadsCard

/-- THE SECOND FORM's CARD OF 'laws.FnMsgJsonMeans'. -/
def fnMsgJsonMeansUptoCard : Claim7 := { stood := { row := fnMsgJsonMeansUptoRow, standIns := [], harness := (true, "3a5b0b6024c5222ec920130fa38a243f40c1c752c3c66374e967e95246a02be9"), looks := true }, kinds := [], alts := [], laidByText := true, laidKinds := [.data, .data, .data, .data, .sentinel, .sentinel, .sentinel, .pinned], laidTests := true, laidLooks := .later }
def FnMsgJsonMeansUptoCardSaid : Prop := Claim7.holds Tryz.pinned (.plain (OpenSpec.upto fnMsgJsonMeansSpec)) fnMsgJsonMeansUptoCard

/-- THE SECOND FORM's CARD OF 'laws.FnMsgJsonReads'. -/
def fnMsgJsonReadsUptoCard : Claim7 := { stood := { row := fnMsgJsonReadsUptoRow, standIns := [], harness := (true, "3a5b0b6024c5222ec920130fa38a243f40c1c752c3c66374e967e95246a02be9"), looks := true }, kinds := [], alts := [], laidByText := true, laidKinds := [.data, .data, .data, .data, .data, .sentinel, .pinned, .pinned, .pinned], laidTests := true, laidLooks := .later }
def FnMsgJsonReadsUptoCardSaid : Prop := Claim7.holds Tryz.pinned (.plain (OpenSpec.upto fnMsgJsonReadsSpec)) fnMsgJsonReadsUptoCard
end Rows
end Go.Proofs.YtapkmjfjikpnlaaGreatDoor
