/-
  DERIVED. GIVEN WITH THE SEED: THE CARDS: each row of YtcpegoofbenoiaaGreatDoorRows.lean that lists a variable, with what it lists TIED to the program's text (the seventh form; the later family's looks); each row that meets fmt, with fmt's text TOLD by the authors' own Lean function (tested against real Go, not proved from fmt's source: count such statements apart). THE CARD IS WHAT COUNTS. Prove the row's statement (the work); the ties are given (YtcpegoofbenoiaaGreatDoorTie.lean); close each card by the builder's one call (the guide's Derived/Test/ToyasCard.lean, 'card_holds'). Laid BY PROGRAM, IN A SANDBOX (cutbox-door.mjs). By AI agents, Wed Nov 11 2026. No macro, syntax, notation, axiom, sorry.
-/
import Derived.Test.YtcpegoofbenoiaaGreatDoorRows
import GoSem.ClaimSeven
namespace Go.Proofs.YtcpegoofbenoiaaGreatDoor
namespace Rows

/-- THE TIED CARD OF 'laws.FnAppended'. -/
def fnAppendedCard : Claim7 := { stood := { row := fnAppendedRow, standIns := [], harness := (true, "28c38e7bda304407e955e1380574378ee3e40bb55c47e0e17baef4b9a7902e13"), looks := true }, kinds := [], alts := [], laidByText := true, laidKinds := [.data, .data, .data, .sentinel, .sentinel, .sentinel, .sentinel, .sentinel, .sentinel, .data], laidTests := true, laidLooks := .later }
def FnAppendedCardSaid : Prop := Claim7.holds Tryz.pinned (.plain (OpenSpec.ofChange fnAppendedSpec)) fnAppendedCard

/-- THE TIED CARD OF 'laws.FnCounters'. -/
def fnCountersCard : Claim7 := { stood := { row := fnCountersRow, standIns := [], harness := (true, "28c38e7bda304407e955e1380574378ee3e40bb55c47e0e17baef4b9a7902e13"), looks := true }, kinds := [], alts := [], laidByText := true, laidKinds := [.data, .data, .data, .sentinel, .sentinel, .sentinel, .sentinel, .sentinel, .sentinel, .data], laidTests := true, laidLooks := .later }
def FnCountersCardSaid : Prop := Claim7.holds Tryz.pinned (.plain (OpenSpec.ofChange fnCountersSpec)) fnCountersCard

/-- THE TIED CARD OF 'laws.FnFlavors'. -/
def fnFlavorsCard : Claim7 := { stood := { row := fnFlavorsRow, standIns := [], harness := (true, "28c38e7bda304407e955e1380574378ee3e40bb55c47e0e17baef4b9a7902e13"), looks := true }, kinds := [], alts := [], laidByText := true, laidKinds := [.data, .data, .data, .sentinel, .sentinel, .sentinel, .sentinel, .sentinel, .sentinel, .data], laidTests := true, laidLooks := .later }
def FnFlavorsCardSaid : Prop := Claim7.holds Tryz.pinned (.plain (OpenSpec.ofChange fnFlavorsSpec)) fnFlavorsCard

/-- THE SECOND FORM's CARD OF 'laws.FnAppended'. -/
def fnAppendedUptoCard : Claim7 := { stood := { row := fnAppendedUptoRow, standIns := [], harness := (true, "28c38e7bda304407e955e1380574378ee3e40bb55c47e0e17baef4b9a7902e13"), looks := true }, kinds := [], alts := [], laidByText := true, laidKinds := [.data, .data, .data, .sentinel, .sentinel, .sentinel, .sentinel, .sentinel, .sentinel, .data], laidTests := true, laidLooks := .later }
def FnAppendedUptoCardSaid : Prop := Claim7.holds Tryz.pinned (.plain (OpenSpec.upto fnAppendedSpec)) fnAppendedUptoCard

/-- THE SECOND FORM's CARD OF 'laws.FnCounters'. -/
def fnCountersUptoCard : Claim7 := { stood := { row := fnCountersUptoRow, standIns := [], harness := (true, "28c38e7bda304407e955e1380574378ee3e40bb55c47e0e17baef4b9a7902e13"), looks := true }, kinds := [], alts := [], laidByText := true, laidKinds := [.data, .data, .data, .sentinel, .sentinel, .sentinel, .sentinel, .sentinel, .sentinel, .data], laidTests := true, laidLooks := .later }
def FnCountersUptoCardSaid : Prop := Claim7.holds Tryz.pinned (.plain (OpenSpec.upto fnCountersSpec)) fnCountersUptoCard

/-- THE SECOND FORM's CARD OF 'laws.FnFlavors'. -/
def fnFlavorsUptoCard : Claim7 := { stood := { row := fnFlavorsUptoRow, standIns := [], harness := (true, "28c38e7bda304407e955e1380574378ee3e40bb55c47e0e17baef4b9a7902e13"), looks := true }, kinds := [], alts := [], laidByText := true, laidKinds := [.data, .data, .data, .sentinel, .sentinel, .sentinel, .sentinel, .sentinel, .sentinel, .data], laidTests := true, laidLooks := .later }
def FnFlavorsUptoCardSaid : Prop := Claim7.holds Tryz.pinned (.plain (OpenSpec.upto fnFlavorsSpec)) fnFlavorsUptoCard
end Rows
end Go.Proofs.YtcpegoofbenoiaaGreatDoor
