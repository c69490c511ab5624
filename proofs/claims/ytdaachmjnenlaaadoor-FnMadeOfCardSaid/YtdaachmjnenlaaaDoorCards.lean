/-
  DERIVED. GIVEN WITH THE SEED: THE CARDS: each row of YtdaachmjnenlaaaDoorRows.lean that lists a variable, with what it lists TIED to the program's text (the seventh form; the later family's looks); each row that meets fmt, with fmt's text TOLD by the authors' own Lean function (tested against real Go, not proved from fmt's source: count such statements apart). THE CARD IS WHAT COUNTS. Prove the row's statement (the work); the ties are given (YtdaachmjnenlaaaDoorTie.lean); close each card by the builder's one call (the guide's Derived/Test/ToyasCard.lean, 'card_holds'). Laid BY PROGRAM, IN A SANDBOX (cutbox-door.mjs). By AI agents, Wed Nov 11 2026. No macro, syntax, notation, axiom, sorry.
-/
import Derived.Test.YtdaachmjnenlaaaDoorRows
import GoSem.ClaimSeven
namespace Go.Proofs.YtdaachmjnenlaaaDoor
namespace Rows

/-- THE TIED CARD OF 'laws.FnNoPlace'. -/
def fnNoPlaceCard : Claim7 := { stood := { row := fnNoPlaceRow, standIns := [], harness := (true, "530b1c8073ffa41259a953679a68d7f9417c364ae7dc604ebd23cc3271d45828"), looks := false }, kinds := [], alts := [], laidByText := true, laidKinds := [.data, .data, .data, .data], laidTests := true, laidLooks := .later }
def FnNoPlaceCardSaid : Prop := Claim7.holds Tryd.pinned (.plain (OpenSpec.ofChange fnNoPlaceSpec)) fnNoPlaceCard

/-- THE TIED CARD OF 'laws.FnSpecial'. -/
def fnSpecialCard : Claim7 := { stood := { row := fnSpecialRow, standIns := [], harness := (true, "530b1c8073ffa41259a953679a68d7f9417c364ae7dc604ebd23cc3271d45828"), looks := false }, kinds := [], alts := [], laidByText := true, laidKinds := [.data, .data, .data, .data], laidTests := true, laidLooks := .later }
def FnSpecialCardSaid : Prop := Claim7.holds Tryd.pinned (.plain (OpenSpec.ofChange fnSpecialSpec)) fnSpecialCard

/-- THE TIED CARD OF 'laws.FnKeywordOrder'. -/
def fnKeywordOrderCard : Claim7 := { stood := { row := fnKeywordOrderRow, standIns := [], harness := (true, "530b1c8073ffa41259a953679a68d7f9417c364ae7dc604ebd23cc3271d45828"), looks := false }, kinds := [], alts := [], laidByText := true, laidKinds := [.data, .data, .data, .data], laidTests := true, laidLooks := .later }
def FnKeywordOrderCardSaid : Prop := Claim7.holds Tryd.pinned (.plain (OpenSpec.ofChange fnKeywordOrderSpec)) fnKeywordOrderCard

/-- THE TIED CARD OF 'laws.FnMadeOf'. -/
def fnMadeOfCard : Claim7 := { stood := { row := fnMadeOfRow, standIns := [], harness := (true, "530b1c8073ffa41259a953679a68d7f9417c364ae7dc604ebd23cc3271d45828"), looks := false }, kinds := [], alts := [], laidByText := true, laidKinds := [.data, .data, .data, .data], laidTests := true, laidLooks := .later }
def FnMadeOfCardSaid : Prop := Claim7.holds Tryd.pinned (.plain (OpenSpec.ofChange fnMadeOfSpec)) fnMadeOfCard

/-- THE TIED CARD OF 'laws.FnString'. -/
def fnStringCard : Claim7 := { stood := { row := fnStringRow, standIns := [], harness := (true, "530b1c8073ffa41259a953679a68d7f9417c364ae7dc604ebd23cc3271d45828"), looks := false }, kinds := [], alts := [], laidByText := true, laidKinds := [.data, .data, .data, .data], laidTests := true, laidLooks := .later }
def FnStringCardSaid : Prop := Claim7.holds Tryd.pinned (.plain (OpenSpec.ofChange fnStringSpec)) fnStringCard

/-- THE TIED CARD OF 'laws.FnTextsApart'. -/
def fnTextsApartCard : Claim7 := { stood := { row := fnTextsApartRow, standIns := [], harness := (true, "530b1c8073ffa41259a953679a68d7f9417c364ae7dc604ebd23cc3271d45828"), looks := false }, kinds := [], alts := [], laidByText := true, laidKinds := [.data, .data, .data, .data], laidTests := true, laidLooks := .later }
def FnTextsApartCardSaid : Prop := Claim7.holds Tryd.pinned (.plain (OpenSpec.ofChange fnTextsApartSpec)) fnTextsApartCard

/-- THE TIED CARD OF 'laws.FnTilde'. -/
def fnTildeCard : Claim7 := { stood := { row := fnTildeRow, standIns := [], harness := (true, "530b1c8073ffa41259a953679a68d7f9417c364ae7dc604ebd23cc3271d45828"), looks := false }, kinds := [], alts := [], laidByText := true, laidKinds := [.data, .data, .data, .data], laidTests := true, laidLooks := .later }
def FnTildeCardSaid : Prop := Claim7.holds Tryd.pinned (.plain (OpenSpec.ofChange fnTildeSpec)) fnTildeCard

/-- THE TIED CARD OF 'laws.FnAssigning'. -/
def fnAssigningCard : Claim7 := { stood := { row := fnAssigningRow, standIns := [], harness := (true, "530b1c8073ffa41259a953679a68d7f9417c364ae7dc604ebd23cc3271d45828"), looks := false }, kinds := [], alts := [], laidByText := true, laidKinds := [.data, .data, .data, .data], laidTests := true, laidLooks := .later }
def FnAssigningCardSaid : Prop := Claim7.holds Tryd.pinned (.plain (OpenSpec.ofChange fnAssigningSpec)) fnAssigningCard

/-- THE TIED CARD OF 'laws.FnOperatorSigns'. -/
def fnOperatorSignsCard : Claim7 := { stood := { row := fnOperatorSignsRow, standIns := [], harness := (true, "530b1c8073ffa41259a953679a68d7f9417c364ae7dc604ebd23cc3271d45828"), looks := false }, kinds := [], alts := [], laidByText := true, laidKinds := [.data, .data, .data, .data], laidTests := true, laidLooks := .later }
def FnOperatorSignsCardSaid : Prop := Claim7.holds Tryd.pinned (.plain (OpenSpec.ofChange fnOperatorSignsSpec)) fnOperatorSignsCard

/-- THE TIED CARD OF 'laws.FnNamesCapital'. -/
def fnNamesCapitalCard : Claim7 := { stood := { row := fnNamesCapitalRow, standIns := [], harness := (true, "530b1c8073ffa41259a953679a68d7f9417c364ae7dc604ebd23cc3271d45828"), looks := false }, kinds := [], alts := [], laidByText := true, laidKinds := [.data, .data, .data, .data], laidTests := true, laidLooks := .later }
def FnNamesCapitalCardSaid : Prop := Claim7.holds Tryd.pinned (.plain (OpenSpec.ofChange fnNamesCapitalSpec)) fnNamesCapitalCard

/-- THE TIED CARD OF 'laws.FnKeywordLetters'. -/
def fnKeywordLettersCard : Claim7 := { stood := { row := fnKeywordLettersRow, standIns := [], harness := (true, "530b1c8073ffa41259a953679a68d7f9417c364ae7dc604ebd23cc3271d45828"), looks := false }, kinds := [], alts := [], laidByText := true, laidKinds := [.data, .data, .data, .data], laidTests := true, laidLooks := .later }
def FnKeywordLettersCardSaid : Prop := Claim7.holds Tryd.pinned (.plain (OpenSpec.ofChange fnKeywordLettersSpec)) fnKeywordLettersCard

/-- THE SECOND FORM's CARD OF 'laws.FnNoPlace'. -/
def fnNoPlaceUptoCard : Claim7 := { stood := { row := fnNoPlaceUptoRow, standIns := [], harness := (true, "530b1c8073ffa41259a953679a68d7f9417c364ae7dc604ebd23cc3271d45828"), looks := false }, kinds := [], alts := [], laidByText := true, laidKinds := [.data, .data, .data, .data], laidTests := true, laidLooks := .later }
def FnNoPlaceUptoCardSaid : Prop := Claim7.holds Tryd.pinned (.plain (OpenSpec.upto fnNoPlaceSpec)) fnNoPlaceUptoCard

/-- THE SECOND FORM's CARD OF 'laws.FnSpecial'. -/
def fnSpecialUptoCard : Claim7 := { stood := { row := fnSpecialUptoRow, standIns := [], harness := (true, "530b1c8073ffa41259a953679a68d7f9417c364ae7dc604ebd23cc3271d45828"), looks := false }, kinds := [], alts := [], laidByText := true, laidKinds := [.data, .data, .data, .data], laidTests := true, laidLooks := .later }
def FnSpecialUptoCardSaid : Prop := Claim7.holds Tryd.pinned (.plain (OpenSpec.upto fnSpecialSpec)) fnSpecialUptoCard

/-- THE SECOND FORM's CARD OF 'laws.FnKeywordOrder'. -/
def fnKeywordOrderUptoCard : Claim7 := { stood := { row := fnKeywordOrderUptoRow, standIns := [], harness := (true, "530b1c8073ffa41259a953679a68d7f9417c364ae7dc604ebd23cc3271d45828"), looks := false }, kinds := [], alts := [], laidByText := true, laidKinds := [.data, .data, .data, .data], laidTests := true, laidLooks := .later }
def FnKeywordOrderUptoCardSaid : Prop := Claim7.holds Tryd.pinned (.plain (OpenSpec.upto fnKeywordOrderSpec)) fnKeywordOrderUptoCard

/-- THE SECOND FORM's CARD OF 'laws.FnMadeOf'. -/
def fnMadeOfUptoCard : Claim7 := { stood := { row := fnMadeOfUptoRow, standIns := [], harness := (true, "530b1c8073ffa41259a953679a68d7f9417c364ae7dc604ebd23cc3271d45828"), looks := false }, kinds := [], alts := [], laidByText := true, laidKinds := [.data, .data, .data, .data], laidTests := true, laidLooks := .later }
def FnMadeOfUptoCardSaid : Prop := Claim7.holds Tryd.pinned (.plain (OpenSpec.upto fnMadeOfSpec)) fnMadeOfUptoCard

/-- THE SECOND FORM's CARD OF 'laws.FnString'. -/
def fnStringUptoCard : Claim7 := { stood := { row := fnStringUptoRow, standIns := [], harness := (true, "530b1c8073ffa41259a953679a68d7f9417c364ae7dc604ebd23cc3271d45828"), looks := false }, kinds := [], alts := [], laidByText := true, laidKinds := [.data, .data, .data, .data], laidTests := true, laidLooks := .later }
def FnStringUptoCardSaid : Prop := Claim7.holds Tryd.pinned (.plain (OpenSpec.upto fnStringSpec)) fnStringUptoCard

/-- THE SECOND FORM's CARD OF 'laws.FnTextsApart'. -/
def fnTextsApartUptoCard : Claim7 := { stood := { row := fnTextsApartUptoRow, standIns := [], harness := (true, "530b1c8073ffa41259a953679a68d7f9417c364ae7dc604ebd23cc3271d45828"), looks := false }, kinds := [], alts := [], laidByText := true, laidKinds := [.data, .data, .data, .data], laidTests := true, laidLooks := .later }
def FnTextsApartUptoCardSaid : Prop := Claim7.holds Tryd.pinned (.plain (OpenSpec.upto fnTextsApartSpec)) fnTextsApartUptoCard

/-- THE SECOND FORM's CARD OF 'laws.FnTilde'. -/
def fnTildeUptoCard : Claim7 := { stood := { row := fnTildeUptoRow, standIns := [], harness := (true, "530b1c8073ffa41259a953679a68d7f9417c364ae7dc604ebd23cc3271d45828"), looks := false }, kinds := [], alts := [], laidByText := true, laidKinds := [.data, .data, .data, .data], laidTests := true, laidLooks := .later }
def FnTildeUptoCardSaid : Prop := Claim7.holds Tryd.pinned (.plain (OpenSpec.upto fnTildeSpec)) fnTildeUptoCard

/-- THE SECOND FORM's CARD OF 'laws.FnAssigning'. -/
def fnAssigningUptoCard : Claim7 := { stood := { row := fnAssigningUptoRow, standIns := [], harness := (true, "530b1c8073ffa41259a953679a68d7f9417c364ae7dc604ebd23cc3271d45828"), looks := false }, kinds := [], alts := [], laidByText := true, laidKinds := [.data, .data, .data, .data], laidTests := true, laidLooks := .later }
def FnAssigningUptoCardSaid : Prop := Claim7.holds Tryd.pinned (.plain (OpenSpec.upto fnAssigningSpec)) fnAssigningUptoCard

/-- THE SECOND FORM's CARD OF 'laws.FnOperatorSigns'. -/
def fnOperatorSignsUptoCard : Claim7 := { stood := { row := fnOperatorSignsUptoRow, standIns := [], harness := (true, "530b1c8073ffa41259a953679a68d7f9417c364ae7dc604ebd23cc3271d45828"), looks := false }, kinds := [], alts := [], laidByText := true, laidKinds := [.data, .data, .data, .data], laidTests := true, laidLooks := .later }
def FnOperatorSignsUptoCardSaid : Prop := Claim7.holds Tryd.pinned (.plain (OpenSpec.upto fnOperatorSignsSpec)) fnOperatorSignsUptoCard

/-- THE SECOND FORM's CARD OF 'laws.FnNamesCapital'. -/
def fnNamesCapitalUptoCard : Claim7 := { stood := { row := fnNamesCapitalUptoRow, standIns := [], harness := (true, "530b1c8073ffa41259a953679a68d7f9417c364ae7dc604ebd23cc3271d45828"), looks := false }, kinds := [], alts := [], laidByText := true, laidKinds := [.data, .data, .data, .data], laidTests := true, laidLooks := .later }
def FnNamesCapitalUptoCardSaid : Prop := Claim7.holds Tryd.pinned (.plain (OpenSpec.upto fnNamesCapitalSpec)) fnNamesCapitalUptoCard

/-- THE SECOND FORM's CARD OF 'laws.FnKeywordLetters'. -/
def fnKeywordLettersUptoCard : Claim7 := { stood := { row := fnKeywordLettersUptoRow, standIns := [], harness := (true, "530b1c8073ffa41259a953679a68d7f9417c364ae7dc604ebd23cc3271d45828"), looks := false }, kinds := [], alts := [], laidByText := true, laidKinds := [.data, .data, .data, .data], laidTests := true, laidLooks := .later }
def FnKeywordLettersUptoCardSaid : Prop := Claim7.holds Tryd.pinned (.plain (OpenSpec.upto fnKeywordLettersSpec)) fnKeywordLettersUptoCard
end Rows
end Go.Proofs.YtdaachmjnenlaaaDoor
