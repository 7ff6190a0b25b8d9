/-
  DERIVED. GIVEN WITH THE SEED: THE CARDS: each row of YtmjegeipnaalnaaGreatDoorRows.lean that lists a variable, with what it lists TIED to the program's text (the seventh form; the later family's looks); each row that meets fmt, with fmt's text TOLD by the authors' own Lean function (tested against real Go, not proved from fmt's source: count such statements apart). THE CARD IS WHAT COUNTS. Prove the row's statement (the work); the ties are given (YtmjegeipnaalnaaGreatDoorTie.lean); close each card by the builder's one call (the guide's Derived/Test/ToyasCard.lean, 'card_holds'). Laid BY PROGRAM, IN A SANDBOX (cutbox-door.mjs). By AI agents, Wed Nov 11 2026. No macro, syntax, notation, axiom, sorry.
-/
import Derived.Test.YtmjegeipnaalnaaGreatDoorRows
import GoSem.ClaimSeven
namespace Go.Proofs.YtmjegeipnaalnaaGreatDoor
namespace Rows

/-- THE TIED CARD OF 'laws.FnContains'. -/
def fnContainsCard : Claim7 := { stood := { row := fnContainsRow, standIns := [], harness := (true, "fc857ea83164b0b35f05852fd2b286e091e6e2f6ce43fe72f9fbf7356506d65e"), looks := true }, kinds := [], alts := [], laidByText := true, laidKinds := [.data, .data, .widerDeep, .widerDeep, .data, .data, .data, .data, .data, .data, .sentinel, .sentinel, .pinned, .pinned, .pinned], laidTests := true, laidLooks := .later }
def FnContainsCardSaid : Prop := Claim7.holds Tryz.pinned (.plain (OpenSpec.ofChange fnContainsSpec)) fnContainsCard

/-- THE TIED CARD OF 'laws.FnGroups'. -/
def fnGroupsCard : Claim7 := { stood := { row := fnGroupsRow, standIns := [], harness := (true, "fc857ea83164b0b35f05852fd2b286e091e6e2f6ce43fe72f9fbf7356506d65e"), looks := true }, kinds := [], alts := [], laidByText := true, laidKinds := [.data, .data, .widerDeep, .widerDeep, .data, .data, .data, .data, .data, .data, .sentinel, .sentinel, .pinned, .pinned, .pinned], laidTests := true, laidLooks := .later }
def FnGroupsCardSaid : Prop := Claim7.holds Tryz.pinned (.plain (OpenSpec.ofChange fnGroupsSpec)) fnGroupsCard

/-- THE TIED CARD OF 'laws.FnModRest'. -/
def fnModRestCard : Claim7 := { stood := { row := fnModRestRow, standIns := [], harness := (true, "fc857ea83164b0b35f05852fd2b286e091e6e2f6ce43fe72f9fbf7356506d65e"), looks := true }, kinds := [], alts := [], laidByText := true, laidKinds := [.data, .data, .widerDeep, .widerDeep, .data, .data, .data, .data, .data, .data, .sentinel, .sentinel, .pinned, .pinned, .pinned], laidTests := true, laidLooks := .later }
def FnModRestCardSaid : Prop := Claim7.holds Tryz.pinned (.plain (OpenSpec.ofChange fnModRestSpec)) fnModRestCard

/-- THE TIED CARD OF 'laws.FnSetApart'. -/
def fnSetApartCard : Claim7 := { stood := { row := fnSetApartRow, standIns := [], harness := (true, "fc857ea83164b0b35f05852fd2b286e091e6e2f6ce43fe72f9fbf7356506d65e"), looks := true }, kinds := [], alts := [], laidByText := true, laidKinds := [.data, .data, .widerDeep, .widerDeep, .data, .data, .data, .data, .data, .data, .sentinel, .sentinel, .pinned, .pinned, .pinned], laidTests := true, laidLooks := .later }
def FnSetApartCardSaid : Prop := Claim7.holds Tryz.pinned (.plain (OpenSpec.ofChange fnSetApartSpec)) fnSetApartCard

/-- THE SECOND FORM's CARD OF 'laws.FnContains'. -/
def fnContainsUptoCard : Claim7 := { stood := { row := fnContainsUptoRow, standIns := [], harness := (true, "fc857ea83164b0b35f05852fd2b286e091e6e2f6ce43fe72f9fbf7356506d65e"), looks := true }, kinds := [], alts := [], laidByText := true, laidKinds := [.data, .data, .widerDeep, .widerDeep, .data, .data, .data, .data, .data, .data, .sentinel, .sentinel, .pinned, .pinned, .pinned], laidTests := true, laidLooks := .later }
def FnContainsUptoCardSaid : Prop := Claim7.holds Tryz.pinned (.plain (OpenSpec.upto fnContainsSpec)) fnContainsUptoCard

/-- THE SECOND FORM's CARD OF 'laws.FnGroups'. -/
def fnGroupsUptoCard : Claim7 := { stood := { row := fnGroupsUptoRow, standIns := [], harness := (true, "fc857ea83164b0b35f05852fd2b286e091e6e2f6ce43fe72f9fbf7356506d65e"), looks := true }, kinds := [], alts := [], laidByText := true, laidKinds := [.data, .data, .widerDeep, .widerDeep, .data, .data, .data, .data, .data, .data, .sentinel, .sentinel, .pinned, .pinned, .pinned], laidTests := true, laidLooks := .later }
def FnGroupsUptoCardSaid : Prop := Claim7.holds Tryz.pinned (.plain (OpenSpec.upto fnGroupsSpec)) fnGroupsUptoCard

/-- THE SECOND FORM's CARD OF 'laws.FnModRest'. -/
def fnModRestUptoCard : Claim7 := { stood := { row := fnModRestUptoRow, standIns := [], harness := (true, "fc857ea83164b0b35f05852fd2b286e091e6e2f6ce43fe72f9fbf7356506d65e"), looks := true }, kinds := [], alts := [], laidByText := true, laidKinds := [.data, .data, .widerDeep, .widerDeep, .data, .data, .data, .data, .data, .data, .sentinel, .sentinel, .pinned, .pinned, .pinned], laidTests := true, laidLooks := .later }
def FnModRestUptoCardSaid : Prop := Claim7.holds Tryz.pinned (.plain (OpenSpec.upto fnModRestSpec)) fnModRestUptoCard

/-- THE SECOND FORM's CARD OF 'laws.FnSetApart'. -/
def fnSetApartUptoCard : Claim7 := { stood := { row := fnSetApartUptoRow, standIns := [], harness := (true, "fc857ea83164b0b35f05852fd2b286e091e6e2f6ce43fe72f9fbf7356506d65e"), looks := true }, kinds := [], alts := [], laidByText := true, laidKinds := [.data, .data, .widerDeep, .widerDeep, .data, .data, .data, .data, .data, .data, .sentinel, .sentinel, .pinned, .pinned, .pinned], laidTests := true, laidLooks := .later }
def FnSetApartUptoCardSaid : Prop := Claim7.holds Tryz.pinned (.plain (OpenSpec.upto fnSetApartSpec)) fnSetApartUptoCard
end Rows
end Go.Proofs.YtmjegeipnaalnaaGreatDoor
