/-
  DERIVED. GIVEN WITH THE SEED: THE CARDS: each row of YtabjfjcaackelaaDoorRows.lean that lists a variable, with what it lists TIED to the program's text (the seventh form; the later family's looks); each row that meets fmt, with fmt's text TOLD by the authors' own Lean function (tested against real Go, not proved from fmt's source: count such statements apart). THE CARD IS WHAT COUNTS. Prove the row's statement (the work); the ties are given (YtabjfjcaackelaaDoorTie.lean); close each card by the builder's one call (the guide's Derived/Test/ToyasCard.lean, 'card_holds'). Laid BY PROGRAM, IN A SANDBOX (cutbox-door.mjs). By AI agents, Wed Nov 11 2026. No macro, syntax, notation, axiom, sorry.
-/
import Derived.Test.YtabjfjcaackelaaDoorRows
import GoSem.ClaimSeven
namespace Go.Proofs.YtabjfjcaackelaaDoor
namespace Rows

/-- THE TIED CARD OF 'laws.FnReadAgain'. -/
def fnReadAgainCard : Claim7 := { stood := { row := fnReadAgainRow, standIns := [], harness := (true, "efaafacc9a5901f31df5cea0a0120778b3bf670eb72b6ceca260213dffb2f4ec"), looks := false }, kinds := [], alts := [], laidByText := true, laidKinds := [.data, .data, .data, .data], laidTests := true, laidLooks := .later }
def FnReadAgainCardSaid : Prop := Claim7.holds Tryd.pinned (.plain (OpenSpec.ofChange fnReadAgainSpec)) fnReadAgainCard

/-- THE TIED CARD OF 'laws.FnGlued'. -/
def fnGluedCard : Claim7 := { stood := { row := fnGluedRow, standIns := [], harness := (true, "efaafacc9a5901f31df5cea0a0120778b3bf670eb72b6ceca260213dffb2f4ec"), looks := false }, kinds := [], alts := [], laidByText := true, laidKinds := [.data, .data, .data, .data], laidTests := true, laidLooks := .later }
def FnGluedCardSaid : Prop := Claim7.holds Tryd.pinned (.plain (OpenSpec.ofChange fnGluedSpec)) fnGluedCard

/-- THE TIED CARD OF 'laws.FnLongestSign'. -/
def fnLongestSignCard : Claim7 := { stood := { row := fnLongestSignRow, standIns := [], harness := (true, "efaafacc9a5901f31df5cea0a0120778b3bf670eb72b6ceca260213dffb2f4ec"), looks := false }, kinds := [], alts := [], laidByText := true, laidKinds := [.data, .data, .data, .data], laidTests := true, laidLooks := .later }
def FnLongestSignCardSaid : Prop := Claim7.holds Tryd.pinned (.plain (OpenSpec.ofChange fnLongestSignSpec)) fnLongestSignCard

/-- THE TIED CARD OF 'laws.FnBrackets'. -/
def fnBracketsCard : Claim7 := { stood := { row := fnBracketsRow, standIns := [], harness := (true, "efaafacc9a5901f31df5cea0a0120778b3bf670eb72b6ceca260213dffb2f4ec"), looks := false }, kinds := [], alts := [], laidByText := true, laidKinds := [.data, .data, .data, .data], laidTests := true, laidLooks := .later }
def FnBracketsCardSaid : Prop := Claim7.holds Tryd.pinned (.plain (OpenSpec.ofChange fnBracketsSpec)) fnBracketsCard

/-- THE TIED CARD OF 'laws.FnGrouped'. -/
def fnGroupedCard : Claim7 := { stood := { row := fnGroupedRow, standIns := [], harness := (true, "efaafacc9a5901f31df5cea0a0120778b3bf670eb72b6ceca260213dffb2f4ec"), looks := false }, kinds := [], alts := [], laidByText := true, laidKinds := [.data, .data, .data, .data], laidTests := true, laidLooks := .later }
def FnGroupedCardSaid : Prop := Claim7.holds Tryd.pinned (.plain (OpenSpec.ofChange fnGroupedSpec)) fnGroupedCard

/-- THE TIED CARD OF 'laws.FnOutermost'. -/
def fnOutermostCard : Claim7 := { stood := { row := fnOutermostRow, standIns := [], harness := (true, "efaafacc9a5901f31df5cea0a0120778b3bf670eb72b6ceca260213dffb2f4ec"), looks := false }, kinds := [], alts := [], laidByText := true, laidKinds := [.data, .data, .data, .data], laidTests := true, laidLooks := .later }
def FnOutermostCardSaid : Prop := Claim7.holds Tryd.pinned (.plain (OpenSpec.ofChange fnOutermostSpec)) fnOutermostCard

/-- THE SECOND FORM's CARD OF 'laws.FnReadAgain'. -/
def fnReadAgainUptoCard : Claim7 := { stood := { row := fnReadAgainUptoRow, standIns := [], harness := (true, "efaafacc9a5901f31df5cea0a0120778b3bf670eb72b6ceca260213dffb2f4ec"), looks := false }, kinds := [], alts := [], laidByText := true, laidKinds := [.data, .data, .data, .data], laidTests := true, laidLooks := .later }
def FnReadAgainUptoCardSaid : Prop := Claim7.holds Tryd.pinned (.plain (OpenSpec.upto fnReadAgainSpec)) fnReadAgainUptoCard

/-- THE SECOND FORM's CARD OF 'laws.FnGlued'. -/
def fnGluedUptoCard : Claim7 := { stood := { row := fnGluedUptoRow, standIns := [], harness := (true, "efaafacc9a5901f31df5cea0a0120778b3bf670eb72b6ceca260213dffb2f4ec"), looks := false }, kinds := [], alts := [], laidByText := true, laidKinds := [.data, .data, .data, .data], laidTests := true, laidLooks := .later }
def FnGluedUptoCardSaid : Prop := Claim7.holds Tryd.pinned (.plain (OpenSpec.upto fnGluedSpec)) fnGluedUptoCard

/-- THE SECOND FORM's CARD OF 'laws.FnLongestSign'. -/
def fnLongestSignUptoCard : Claim7 := { stood := { row := fnLongestSignUptoRow, standIns := [], harness := (true, "efaafacc9a5901f31df5cea0a0120778b3bf670eb72b6ceca260213dffb2f4ec"), looks := false }, kinds := [], alts := [], laidByText := true, laidKinds := [.data, .data, .data, .data], laidTests := true, laidLooks := .later }
def FnLongestSignUptoCardSaid : Prop := Claim7.holds Tryd.pinned (.plain (OpenSpec.upto fnLongestSignSpec)) fnLongestSignUptoCard

/-- THE SECOND FORM's CARD OF 'laws.FnBrackets'. -/
def fnBracketsUptoCard : Claim7 := { stood := { row := fnBracketsUptoRow, standIns := [], harness := (true, "efaafacc9a5901f31df5cea0a0120778b3bf670eb72b6ceca260213dffb2f4ec"), looks := false }, kinds := [], alts := [], laidByText := true, laidKinds := [.data, .data, .data, .data], laidTests := true, laidLooks := .later }
def FnBracketsUptoCardSaid : Prop := Claim7.holds Tryd.pinned (.plain (OpenSpec.upto fnBracketsSpec)) fnBracketsUptoCard

/-- THE SECOND FORM's CARD OF 'laws.FnGrouped'. -/
def fnGroupedUptoCard : Claim7 := { stood := { row := fnGroupedUptoRow, standIns := [], harness := (true, "efaafacc9a5901f31df5cea0a0120778b3bf670eb72b6ceca260213dffb2f4ec"), looks := false }, kinds := [], alts := [], laidByText := true, laidKinds := [.data, .data, .data, .data], laidTests := true, laidLooks := .later }
def FnGroupedUptoCardSaid : Prop := Claim7.holds Tryd.pinned (.plain (OpenSpec.upto fnGroupedSpec)) fnGroupedUptoCard

/-- THE SECOND FORM's CARD OF 'laws.FnOutermost'. -/
def fnOutermostUptoCard : Claim7 := { stood := { row := fnOutermostUptoRow, standIns := [], harness := (true, "efaafacc9a5901f31df5cea0a0120778b3bf670eb72b6ceca260213dffb2f4ec"), looks := false }, kinds := [], alts := [], laidByText := true, laidKinds := [.data, .data, .data, .data], laidTests := true, laidLooks := .later }
def FnOutermostUptoCardSaid : Prop := Claim7.holds Tryd.pinned (.plain (OpenSpec.upto fnOutermostSpec)) fnOutermostUptoCard
end Rows
end Go.Proofs.YtabjfjcaackelaaDoor
