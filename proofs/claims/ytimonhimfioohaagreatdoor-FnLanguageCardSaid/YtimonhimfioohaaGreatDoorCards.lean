/-
  DERIVED. GIVEN WITH THE SEED: THE CARDS: each row of YtimonhimfioohaaGreatDoorRows.lean that lists a variable, with what it lists TIED to the program's text (the seventh form; the later family's looks); each row that meets fmt, with fmt's text TOLD by the authors' own Lean function (tested against real Go, not proved from fmt's source: count such statements apart). THE CARD IS WHAT COUNTS. Prove the row's statement (the work); the ties are given (YtimonhimfioohaaGreatDoorTie.lean); close each card by the builder's one call (the guide's Derived/Test/ToyasCard.lean, 'card_holds'). Laid BY PROGRAM, IN A SANDBOX (cutbox-door.mjs). By AI agents, Wed Nov 11 2026. No macro, syntax, notation, axiom, sorry.
-/
import Derived.Test.YtimonhimfioohaaGreatDoorRows
import GoSem.ClaimSeven
namespace Go.Proofs.YtimonhimfioohaaGreatDoor
namespace Rows

/-- THE TIED CARD OF 'laws.FnLanguage'. -/
def fnLanguageCard : Claim7 := { stood := { row := fnLanguageRow, standIns := [], harness := (true, "091d9c95235dc22c85cc03d41ad2d57e035643d4c483d47226c3b349d18f059f"), looks := true }, kinds := [], alts := [], laidByText := true, laidKinds := [.data, .data, .data, .sentinel, .sentinel, .sentinel, .sentinel, .sentinel, .sentinel, .sentinel, .sentinel, .sentinel], laidTests := true, laidLooks := .later }
def FnLanguageCardSaid : Prop := Claim7.holds Tryz.pinned (.plain (OpenSpec.ofChange fnLanguageSpec)) fnLanguageCard

/-- THE TIED CARD OF 'laws.FnPort'. -/
def fnPortCard : Claim7 := { stood := { row := fnPortRow, standIns := [], harness := (true, "091d9c95235dc22c85cc03d41ad2d57e035643d4c483d47226c3b349d18f059f"), looks := true }, kinds := [], alts := [], laidByText := true, laidKinds := [.data, .data, .data, .sentinel, .sentinel, .sentinel, .sentinel, .sentinel, .sentinel, .sentinel, .sentinel, .sentinel], laidTests := true, laidLooks := .later }
def FnPortCardSaid : Prop := Claim7.holds Tryz.pinned (.plain (OpenSpec.ofChange fnPortSpec)) fnPortCard

/-- THE TIED CARD OF 'laws.FnTimeUnits'. -/
def fnTimeUnitsCard : Claim7 := { stood := { row := fnTimeUnitsRow, standIns := [], harness := (true, "091d9c95235dc22c85cc03d41ad2d57e035643d4c483d47226c3b349d18f059f"), looks := true }, kinds := [], alts := [], laidByText := true, laidKinds := [.data, .data, .data, .sentinel, .sentinel, .sentinel, .sentinel, .sentinel, .sentinel, .sentinel, .sentinel, .sentinel], laidTests := true, laidLooks := .later }
def FnTimeUnitsCardSaid : Prop := Claim7.holds Tryz.pinned (.plain (OpenSpec.ofChange fnTimeUnitsSpec)) fnTimeUnitsCard

/-- THE TIED CARD OF 'laws.FnBandwidth'. -/
def fnBandwidthCard : Claim7 := { stood := { row := fnBandwidthRow, standIns := [], harness := (true, "091d9c95235dc22c85cc03d41ad2d57e035643d4c483d47226c3b349d18f059f"), looks := true }, kinds := [], alts := [], laidByText := true, laidKinds := [.data, .data, .data, .sentinel, .sentinel, .sentinel, .sentinel, .sentinel, .sentinel, .sentinel, .sentinel, .sentinel], laidTests := true, laidLooks := .later }
def FnBandwidthCardSaid : Prop := Claim7.holds Tryz.pinned (.plain (OpenSpec.ofChange fnBandwidthSpec)) fnBandwidthCard

/-- THE TIED CARD OF 'laws.FnDirection'. -/
def fnDirectionCard : Claim7 := { stood := { row := fnDirectionRow, standIns := [], harness := (true, "091d9c95235dc22c85cc03d41ad2d57e035643d4c483d47226c3b349d18f059f"), looks := true }, kinds := [], alts := [], laidByText := true, laidKinds := [.data, .data, .data, .sentinel, .sentinel, .sentinel, .sentinel, .sentinel, .sentinel, .sentinel, .sentinel, .sentinel, .sentinel], laidTests := true, laidLooks := .later }
def FnDirectionCardSaid : Prop := Claim7.holds Tryz.pinned (.plain (OpenSpec.ofChange fnDirectionSpec)) fnDirectionCard

/-- THE TIED CARD OF 'laws.FnSource'. -/
def fnSourceCard : Claim7 := { stood := { row := fnSourceRow, standIns := [], harness := (true, "091d9c95235dc22c85cc03d41ad2d57e035643d4c483d47226c3b349d18f059f"), looks := true }, kinds := [], alts := [], laidByText := true, laidKinds := [.data, .data, .data, .sentinel, .sentinel, .sentinel, .sentinel, .sentinel, .sentinel, .sentinel, .sentinel, .sentinel], laidTests := true, laidLooks := .later }
def FnSourceCardSaid : Prop := Claim7.holds Tryz.pinned (.plain (OpenSpec.ofChange fnSourceSpec)) fnSourceCard

/-- THE TIED CARD OF 'laws.FnAttribute'. -/
def fnAttributeCard : Claim7 := { stood := { row := fnAttributeRow, standIns := [], harness := (true, "091d9c95235dc22c85cc03d41ad2d57e035643d4c483d47226c3b349d18f059f"), looks := true }, kinds := [], alts := [], laidByText := true, laidKinds := [.data, .data, .data, .sentinel, .sentinel, .sentinel, .sentinel, .sentinel, .sentinel, .sentinel, .sentinel, .sentinel], laidTests := true, laidLooks := .later }
def FnAttributeCardSaid : Prop := Claim7.holds Tryz.pinned (.plain (OpenSpec.ofChange fnAttributeSpec)) fnAttributeCard

/-- THE TIED CARD OF 'laws.FnWith'. -/
def fnWithCard : Claim7 := { stood := { row := fnWithRow, standIns := [], harness := (true, "091d9c95235dc22c85cc03d41ad2d57e035643d4c483d47226c3b349d18f059f"), looks := true }, kinds := [], alts := [], laidByText := true, laidKinds := [.data, .data, .data, .sentinel, .sentinel, .sentinel, .sentinel, .sentinel, .sentinel, .sentinel, .sentinel, .sentinel], laidTests := true, laidLooks := .later }
def FnWithCardSaid : Prop := Claim7.holds Tryz.pinned (.plain (OpenSpec.ofChange fnWithSpec)) fnWithCard

/-- THE TIED CARD OF 'laws.FnExtMap'. -/
def fnExtMapCard : Claim7 := { stood := { row := fnExtMapRow, standIns := [], harness := (true, "091d9c95235dc22c85cc03d41ad2d57e035643d4c483d47226c3b349d18f059f"), looks := true }, kinds := [], alts := [], laidByText := true, laidKinds := [.data, .data, .data, .sentinel, .sentinel, .sentinel, .listed, .data, .sentinel, .sentinel, .sentinel, .sentinel, .sentinel, .sentinel, .sentinel, .sentinel], laidTests := true, laidLooks := .later }
def FnExtMapCardSaid : Prop := Claim7.holds Tryz.pinned (.plain (OpenSpec.ofChange fnExtMapSpec)) fnExtMapCard

/-- THE SECOND FORM's CARD OF 'laws.FnLanguage'. -/
def fnLanguageUptoCard : Claim7 := { stood := { row := fnLanguageUptoRow, standIns := [], harness := (true, "091d9c95235dc22c85cc03d41ad2d57e035643d4c483d47226c3b349d18f059f"), looks := true }, kinds := [], alts := [], laidByText := true, laidKinds := [.data, .data, .data, .sentinel, .sentinel, .sentinel, .sentinel, .sentinel, .sentinel, .sentinel, .sentinel, .sentinel], laidTests := true, laidLooks := .later }
def FnLanguageUptoCardSaid : Prop := Claim7.holds Tryz.pinned (.plain (OpenSpec.upto fnLanguageSpec)) fnLanguageUptoCard

/-- THE SECOND FORM's CARD OF 'laws.FnPort'. -/
def fnPortUptoCard : Claim7 := { stood := { row := fnPortUptoRow, standIns := [], harness := (true, "091d9c95235dc22c85cc03d41ad2d57e035643d4c483d47226c3b349d18f059f"), looks := true }, kinds := [], alts := [], laidByText := true, laidKinds := [.data, .data, .data, .sentinel, .sentinel, .sentinel, .sentinel, .sentinel, .sentinel, .sentinel, .sentinel, .sentinel], laidTests := true, laidLooks := .later }
def FnPortUptoCardSaid : Prop := Claim7.holds Tryz.pinned (.plain (OpenSpec.upto fnPortSpec)) fnPortUptoCard

/-- THE SECOND FORM's CARD OF 'laws.FnTimeUnits'. -/
def fnTimeUnitsUptoCard : Claim7 := { stood := { row := fnTimeUnitsUptoRow, standIns := [], harness := (true, "091d9c95235dc22c85cc03d41ad2d57e035643d4c483d47226c3b349d18f059f"), looks := true }, kinds := [], alts := [], laidByText := true, laidKinds := [.data, .data, .data, .sentinel, .sentinel, .sentinel, .sentinel, .sentinel, .sentinel, .sentinel, .sentinel, .sentinel], laidTests := true, laidLooks := .later }
def FnTimeUnitsUptoCardSaid : Prop := Claim7.holds Tryz.pinned (.plain (OpenSpec.upto fnTimeUnitsSpec)) fnTimeUnitsUptoCard

/-- THE SECOND FORM's CARD OF 'laws.FnBandwidth'. -/
def fnBandwidthUptoCard : Claim7 := { stood := { row := fnBandwidthUptoRow, standIns := [], harness := (true, "091d9c95235dc22c85cc03d41ad2d57e035643d4c483d47226c3b349d18f059f"), looks := true }, kinds := [], alts := [], laidByText := true, laidKinds := [.data, .data, .data, .sentinel, .sentinel, .sentinel, .sentinel, .sentinel, .sentinel, .sentinel, .sentinel, .sentinel], laidTests := true, laidLooks := .later }
def FnBandwidthUptoCardSaid : Prop := Claim7.holds Tryz.pinned (.plain (OpenSpec.upto fnBandwidthSpec)) fnBandwidthUptoCard

/-- THE SECOND FORM's CARD OF 'laws.FnDirection'. -/
def fnDirectionUptoCard : Claim7 := { stood := { row := fnDirectionUptoRow, standIns := [], harness := (true, "091d9c95235dc22c85cc03d41ad2d57e035643d4c483d47226c3b349d18f059f"), looks := true }, kinds := [], alts := [], laidByText := true, laidKinds := [.data, .data, .data, .sentinel, .sentinel, .sentinel, .sentinel, .sentinel, .sentinel, .sentinel, .sentinel, .sentinel, .sentinel], laidTests := true, laidLooks := .later }
def FnDirectionUptoCardSaid : Prop := Claim7.holds Tryz.pinned (.plain (OpenSpec.upto fnDirectionSpec)) fnDirectionUptoCard

/-- THE SECOND FORM's CARD OF 'laws.FnSource'. -/
def fnSourceUptoCard : Claim7 := { stood := { row := fnSourceUptoRow, standIns := [], harness := (true, "091d9c95235dc22c85cc03d41ad2d57e035643d4c483d47226c3b349d18f059f"), looks := true }, kinds := [], alts := [], laidByText := true, laidKinds := [.data, .data, .data, .sentinel, .sentinel, .sentinel, .sentinel, .sentinel, .sentinel, .sentinel, .sentinel, .sentinel], laidTests := true, laidLooks := .later }
def FnSourceUptoCardSaid : Prop := Claim7.holds Tryz.pinned (.plain (OpenSpec.upto fnSourceSpec)) fnSourceUptoCard

/-- THE SECOND FORM's CARD OF 'laws.FnAttribute'. -/
def fnAttributeUptoCard : Claim7 := { stood := { row := fnAttributeUptoRow, standIns := [], harness := (true, "091d9c95235dc22c85cc03d41ad2d57e035643d4c483d47226c3b349d18f059f"), looks := true }, kinds := [], alts := [], laidByText := true, laidKinds := [.data, .data, .data, .sentinel, .sentinel, .sentinel, .sentinel, .sentinel, .sentinel, .sentinel, .sentinel, .sentinel], laidTests := true, laidLooks := .later }
def FnAttributeUptoCardSaid : Prop := Claim7.holds Tryz.pinned (.plain (OpenSpec.upto fnAttributeSpec)) fnAttributeUptoCard

/-- THE SECOND FORM's CARD OF 'laws.FnWith'. -/
def fnWithUptoCard : Claim7 := { stood := { row := fnWithUptoRow, standIns := [], harness := (true, "091d9c95235dc22c85cc03d41ad2d57e035643d4c483d47226c3b349d18f059f"), looks := true }, kinds := [], alts := [], laidByText := true, laidKinds := [.data, .data, .data, .sentinel, .sentinel, .sentinel, .sentinel, .sentinel, .sentinel, .sentinel, .sentinel, .sentinel], laidTests := true, laidLooks := .later }
def FnWithUptoCardSaid : Prop := Claim7.holds Tryz.pinned (.plain (OpenSpec.upto fnWithSpec)) fnWithUptoCard

/-- THE SECOND FORM's CARD OF 'laws.FnExtMap'. -/
def fnExtMapUptoCard : Claim7 := { stood := { row := fnExtMapUptoRow, standIns := [], harness := (true, "091d9c95235dc22c85cc03d41ad2d57e035643d4c483d47226c3b349d18f059f"), looks := true }, kinds := [], alts := [], laidByText := true, laidKinds := [.data, .data, .data, .sentinel, .sentinel, .sentinel, .listed, .data, .sentinel, .sentinel, .sentinel, .sentinel, .sentinel, .sentinel, .sentinel, .sentinel], laidTests := true, laidLooks := .later }
def FnExtMapUptoCardSaid : Prop := Claim7.holds Tryz.pinned (.plain (OpenSpec.upto fnExtMapSpec)) fnExtMapUptoCard
end Rows
end Go.Proofs.YtimonhimfioohaaGreatDoor
