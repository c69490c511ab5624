/-
  DERIVED. GIVEN WITH THE SEED: THE CARDS: each row of YtggldaepncnnfaaDoorRows.lean that lists a variable, with what it lists TIED to the program's text (the seventh form; the later family's looks); each row that meets fmt, with fmt's text TOLD by the authors' own Lean function (tested against real Go, not proved from fmt's source: count such statements apart). THE CARD IS WHAT COUNTS. Prove the row's statement (the work); the ties are given (YtggldaepncnnfaaDoorTie.lean); close each card by the builder's one call (the guide's Derived/Test/ToyasCard.lean, 'card_holds'). Laid BY PROGRAM, IN A SANDBOX (cutbox-door.mjs). By AI agents, Wed Nov 11 2026. No macro, syntax, notation, axiom, sorry.
-/
import Derived.Test.YtggldaepncnnfaaDoorRows
import GoSem.ClaimSeven
namespace Go.Proofs.YtggldaepncnnfaaDoor
namespace Rows

/-- THE TIED CARD OF 'laws.FnExportedTexts'. -/
def fnExportedTextsCard : Claim7 := { stood := { row := fnExportedTextsRow, standIns := [], harness := (true, "05f9a50cfc773eca365add100e9d5e1bea4d7f040ad3bf599aed8be92d7616ef"), looks := false }, kinds := [], alts := [], laidByText := true, laidKinds := [.data, .data, .data, .data, .data, .data, .pinned, .pinned], laidTests := true, laidLooks := .later }
def FnExportedTextsCardSaid : Prop := Claim7.holds Tryd.pinned (.plain (OpenSpec.ofChange fnExportedTextsSpec)) fnExportedTextsCard

/-- THE TIED CARD OF 'laws.FnExportedCapital'. -/
def fnExportedCapitalCard : Claim7 := { stood := { row := fnExportedCapitalRow, standIns := [], harness := (true, "05f9a50cfc773eca365add100e9d5e1bea4d7f040ad3bf599aed8be92d7616ef"), looks := false }, kinds := [], alts := [], laidByText := true, laidKinds := [.data, .data, .pinned, .pinned], laidTests := true, laidLooks := .later }
def FnExportedCapitalCardSaid : Prop := Claim7.holds Tryd.pinned (.plain (OpenSpec.ofChange fnExportedCapitalSpec)) fnExportedCapitalCard

/-- THE TIED CARD OF 'laws.FnExportedFirst'. -/
def fnExportedFirstCard : Claim7 := { stood := { row := fnExportedFirstRow, standIns := [], harness := (true, "05f9a50cfc773eca365add100e9d5e1bea4d7f040ad3bf599aed8be92d7616ef"), looks := false }, kinds := [], alts := [], laidByText := true, laidKinds := [.data, .data, .pinned, .pinned], laidTests := true, laidLooks := .later }
def FnExportedFirstCardSaid : Prop := Claim7.holds Tryd.pinned (.plain (OpenSpec.ofChange fnExportedFirstSpec)) fnExportedFirstCard

/-- THE TIED CARD OF 'laws.FnExportedNot'. -/
def fnExportedNotCard : Claim7 := { stood := { row := fnExportedNotRow, standIns := [], harness := (true, "05f9a50cfc773eca365add100e9d5e1bea4d7f040ad3bf599aed8be92d7616ef"), looks := false }, kinds := [], alts := [], laidByText := true, laidKinds := [.data, .data, .pinned, .pinned], laidTests := true, laidLooks := .later }
def FnExportedNotCardSaid : Prop := Claim7.holds Tryd.pinned (.plain (OpenSpec.ofChange fnExportedNotSpec)) fnExportedNotCard

/-- THE TIED CARD OF 'laws.FnIsExported'. -/
def fnIsExportedCard : Claim7 := { stood := { row := fnIsExportedRow, standIns := [], harness := (true, "05f9a50cfc773eca365add100e9d5e1bea4d7f040ad3bf599aed8be92d7616ef"), looks := false }, kinds := [], alts := [], laidByText := true, laidKinds := [.data, .data, .pinned, .pinned], laidTests := true, laidLooks := .later }
def FnIsExportedCardSaid : Prop := Claim7.holds Tryd.pinned (.plain (OpenSpec.ofChange fnIsExportedSpec)) fnIsExportedCard

/-- THE SECOND FORM's CARD OF 'laws.FnExportedTexts'. -/
def fnExportedTextsUptoCard : Claim7 := { stood := { row := fnExportedTextsUptoRow, standIns := [], harness := (true, "05f9a50cfc773eca365add100e9d5e1bea4d7f040ad3bf599aed8be92d7616ef"), looks := false }, kinds := [], alts := [], laidByText := true, laidKinds := [.data, .data, .data, .data, .data, .data, .pinned, .pinned], laidTests := true, laidLooks := .later }
def FnExportedTextsUptoCardSaid : Prop := Claim7.holds Tryd.pinned (.plain (OpenSpec.upto fnExportedTextsSpec)) fnExportedTextsUptoCard

/-- THE SECOND FORM's CARD OF 'laws.FnExportedCapital'. -/
def fnExportedCapitalUptoCard : Claim7 := { stood := { row := fnExportedCapitalUptoRow, standIns := [], harness := (true, "05f9a50cfc773eca365add100e9d5e1bea4d7f040ad3bf599aed8be92d7616ef"), looks := false }, kinds := [], alts := [], laidByText := true, laidKinds := [.data, .data, .pinned, .pinned], laidTests := true, laidLooks := .later }
def FnExportedCapitalUptoCardSaid : Prop := Claim7.holds Tryd.pinned (.plain (OpenSpec.upto fnExportedCapitalSpec)) fnExportedCapitalUptoCard

/-- THE SECOND FORM's CARD OF 'laws.FnExportedFirst'. -/
def fnExportedFirstUptoCard : Claim7 := { stood := { row := fnExportedFirstUptoRow, standIns := [], harness := (true, "05f9a50cfc773eca365add100e9d5e1bea4d7f040ad3bf599aed8be92d7616ef"), looks := false }, kinds := [], alts := [], laidByText := true, laidKinds := [.data, .data, .pinned, .pinned], laidTests := true, laidLooks := .later }
def FnExportedFirstUptoCardSaid : Prop := Claim7.holds Tryd.pinned (.plain (OpenSpec.upto fnExportedFirstSpec)) fnExportedFirstUptoCard

/-- THE SECOND FORM's CARD OF 'laws.FnExportedNot'. -/
def fnExportedNotUptoCard : Claim7 := { stood := { row := fnExportedNotUptoRow, standIns := [], harness := (true, "05f9a50cfc773eca365add100e9d5e1bea4d7f040ad3bf599aed8be92d7616ef"), looks := false }, kinds := [], alts := [], laidByText := true, laidKinds := [.data, .data, .pinned, .pinned], laidTests := true, laidLooks := .later }
def FnExportedNotUptoCardSaid : Prop := Claim7.holds Tryd.pinned (.plain (OpenSpec.upto fnExportedNotSpec)) fnExportedNotUptoCard

/-- THE SECOND FORM's CARD OF 'laws.FnIsExported'. -/
def fnIsExportedUptoCard : Claim7 := { stood := { row := fnIsExportedUptoRow, standIns := [], harness := (true, "05f9a50cfc773eca365add100e9d5e1bea4d7f040ad3bf599aed8be92d7616ef"), looks := false }, kinds := [], alts := [], laidByText := true, laidKinds := [.data, .data, .pinned, .pinned], laidTests := true, laidLooks := .later }
def FnIsExportedUptoCardSaid : Prop := Claim7.holds Tryd.pinned (.plain (OpenSpec.upto fnIsExportedSpec)) fnIsExportedUptoCard
end Rows
end Go.Proofs.YtggldaepncnnfaaDoor
