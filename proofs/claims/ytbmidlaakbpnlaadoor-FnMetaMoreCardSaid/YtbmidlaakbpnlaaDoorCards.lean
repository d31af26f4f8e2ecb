/-
  DERIVED. GIVEN WITH THE SEED: THE CARDS: each row of YtbmidlaakbpnlaaDoorRows.lean that lists a variable, with what it lists TIED to the program's text (the seventh form; the later family's looks); each row that meets fmt, with fmt's text TOLD by the authors' own Lean function (tested against real Go, not proved from fmt's source: count such statements apart). THE CARD IS WHAT COUNTS. Prove the row's statement (the work); the ties are given (YtbmidlaakbpnlaaDoorTie.lean); close each card by the builder's one call (the guide's Derived/Test/ToyasCard.lean, 'card_holds'). Laid BY PROGRAM, IN A SANDBOX (cutbox-door.mjs). By AI agents, Wed Nov 11 2026. No macro, syntax, notation, axiom, sorry.
-/
import Derived.Test.YtbmidlaakbpnlaaDoorRows
import GoSem.ClaimSeven
namespace Go.Proofs.YtbmidlaakbpnlaaDoor
namespace Rows

/-- THE TIED CARD OF 'laws.FnMeta'. -/
def fnMetaCard : Claim7 := { stood := { row := fnMetaRow, standIns := [], harness := (true, "efe8880f32e954f420e1adf5ab9602aea91bd5c07da391e588d480529e23053c"), looks := true }, kinds := [], alts := [], laidByText := true, laidKinds := [.sentinel, .sentinel, .sentinel], laidTests := true, laidLooks := .later }
def FnMetaCardSaid : Prop := Claim7.holds Tryd.pinned (.plain (OpenSpec.ofChange fnMetaSpec)) fnMetaCard

/-- THE TIED CARD OF 'laws.FnMetaMore'. -/
def fnMetaMoreCard : Claim7 := { stood := { row := fnMetaMoreRow, standIns := [], harness := (true, "efe8880f32e954f420e1adf5ab9602aea91bd5c07da391e588d480529e23053c"), looks := true }, kinds := [], alts := [], laidByText := true, laidKinds := [.sentinel, .sentinel, .sentinel], laidTests := true, laidLooks := .later }
def FnMetaMoreCardSaid : Prop := Claim7.holds Tryd.pinned (.plain (OpenSpec.ofChange fnMetaMoreSpec)) fnMetaMoreCard

/-- THE SECOND FORM's CARD OF 'laws.FnMeta'. -/
def fnMetaUptoCard : Claim7 := { stood := { row := fnMetaUptoRow, standIns := [], harness := (true, "efe8880f32e954f420e1adf5ab9602aea91bd5c07da391e588d480529e23053c"), looks := true }, kinds := [], alts := [], laidByText := true, laidKinds := [.sentinel, .sentinel, .sentinel], laidTests := true, laidLooks := .later }
def FnMetaUptoCardSaid : Prop := Claim7.holds Tryd.pinned (.plain (OpenSpec.upto fnMetaSpec)) fnMetaUptoCard

/-- THE SECOND FORM's CARD OF 'laws.FnMetaMore'. -/
def fnMetaMoreUptoCard : Claim7 := { stood := { row := fnMetaMoreUptoRow, standIns := [], harness := (true, "efe8880f32e954f420e1adf5ab9602aea91bd5c07da391e588d480529e23053c"), looks := true }, kinds := [], alts := [], laidByText := true, laidKinds := [.sentinel, .sentinel, .sentinel], laidTests := true, laidLooks := .later }
def FnMetaMoreUptoCardSaid : Prop := Claim7.holds Tryd.pinned (.plain (OpenSpec.upto fnMetaMoreSpec)) fnMetaMoreUptoCard
end Rows
end Go.Proofs.YtbmidlaakbpnlaaDoor
