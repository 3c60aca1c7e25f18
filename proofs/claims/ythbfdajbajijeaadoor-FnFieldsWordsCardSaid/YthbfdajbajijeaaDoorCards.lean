/-
  DERIVED. GIVEN WITH THE SEED: THE CARDS: each row of YthbfdajbajijeaaDoorRows.lean that lists a variable, with what it lists TIED to the program's text (the seventh form; the later family's looks); each row that meets fmt, with fmt's text TOLD by the authors' own Lean function (tested against real Go, not proved from fmt's source: count such statements apart). THE CARD IS WHAT COUNTS. Prove the row's statement (the work); the ties are given (YthbfdajbajijeaaDoorTie.lean); close each card by the builder's one call (the guide's Derived/Test/ToyasCard.lean, 'card_holds'). Laid BY PROGRAM, IN A SANDBOX (cutbox-door.mjs). By AI agents, Wed Nov 11 2026. No macro, syntax, notation, axiom, sorry.
-/
import Derived.Test.YthbfdajbajijeaaDoorRows
import GoSem.ClaimSeven
namespace Go.Proofs.YthbfdajbajijeaaDoor
namespace Rows

/-- THE TIED CARD OF 'laws.FnTrimSpaceTest'. -/
def fnTrimSpaceTestCard : Claim7 := { stood := { row := fnTrimSpaceTestRow, standIns := [], harness := (true, "27b2609f5f65d6dd1498c3df6adbafb52ef186e67687ce2cbf8bab08708c2fb8"), looks := false }, kinds := [], alts := [], laidByText := true, laidKinds := [.data, .listed, .data, .pinned], laidTests := true, laidLooks := .later }
def FnTrimSpaceTestCardSaid : Prop := Claim7.holds Tryd.pinned (.plain (OpenSpec.ofChange fnTrimSpaceTestSpec)) fnTrimSpaceTestCard

/-- THE TIED CARD OF 'laws.FnTrimSpaceOne'. -/
def fnTrimSpaceOneCard : Claim7 := { stood := { row := fnTrimSpaceOneRow, standIns := [], harness := (true, "27b2609f5f65d6dd1498c3df6adbafb52ef186e67687ce2cbf8bab08708c2fb8"), looks := false }, kinds := [], alts := [], laidByText := true, laidKinds := [.data, .listed, .data, .pinned], laidTests := true, laidLooks := .later }
def FnTrimSpaceOneCardSaid : Prop := Claim7.holds Tryd.pinned (.plain (OpenSpec.ofChange fnTrimSpaceOneSpec)) fnTrimSpaceOneCard

/-- THE TIED CARD OF 'laws.FnFieldsWords'. -/
def fnFieldsWordsCard : Claim7 := { stood := { row := fnFieldsWordsRow, standIns := [], harness := (true, "27b2609f5f65d6dd1498c3df6adbafb52ef186e67687ce2cbf8bab08708c2fb8"), looks := false }, kinds := [], alts := [], laidByText := true, laidKinds := [.data, .listed, .data, .pinned], laidTests := true, laidLooks := .later }
def FnFieldsWordsCardSaid : Prop := Claim7.holds Tryd.pinned (.plain (OpenSpec.ofChange fnFieldsWordsSpec)) fnFieldsWordsCard

/-- THE TIED CARD OF 'laws.FnExactFieldsSeq'. -/
def fnExactFieldsSeqCard : Claim7 := { stood := { row := fnExactFieldsSeqRow, standIns := [], harness := (true, "27b2609f5f65d6dd1498c3df6adbafb52ef186e67687ce2cbf8bab08708c2fb8"), looks := false }, kinds := [], alts := [], laidByText := true, laidKinds := [.data, .listed, .data, .pinned], laidTests := true, laidLooks := .later }
def FnExactFieldsSeqCardSaid : Prop := Claim7.holds Tryd.pinned (.plain (OpenSpec.ofChange fnExactFieldsSeqSpec)) fnExactFieldsSeqCard

/-- THE TIED CARD OF 'laws.FnExactFields'. -/
def fnExactFieldsCard : Claim7 := { stood := { row := fnExactFieldsRow, standIns := [], harness := (true, "27b2609f5f65d6dd1498c3df6adbafb52ef186e67687ce2cbf8bab08708c2fb8"), looks := false }, kinds := [], alts := [], laidByText := true, laidKinds := [.data, .listed, .data, .pinned], laidTests := true, laidLooks := .later }
def FnExactFieldsCardSaid : Prop := Claim7.holds Tryd.pinned (.plain (OpenSpec.ofChange fnExactFieldsSpec)) fnExactFieldsCard

/-- THE TIED CARD OF 'laws.FnFieldsMore'. -/
def fnFieldsMoreCard : Claim7 := { stood := { row := fnFieldsMoreRow, standIns := [], harness := (true, "27b2609f5f65d6dd1498c3df6adbafb52ef186e67687ce2cbf8bab08708c2fb8"), looks := false }, kinds := [], alts := [], laidByText := true, laidKinds := [.data, .listed, .data, .pinned], laidTests := true, laidLooks := .later }
def FnFieldsMoreCardSaid : Prop := Claim7.holds Tryd.pinned (.plain (OpenSpec.ofChange fnFieldsMoreSpec)) fnFieldsMoreCard

/-- THE TIED CARD OF 'laws.FnFieldsSeqAgain'. -/
def fnFieldsSeqAgainCard : Claim7 := { stood := { row := fnFieldsSeqAgainRow, standIns := [], harness := (true, "27b2609f5f65d6dd1498c3df6adbafb52ef186e67687ce2cbf8bab08708c2fb8"), looks := false }, kinds := [], alts := [], laidByText := true, laidKinds := [.data, .listed, .data, .pinned], laidTests := true, laidLooks := .later }
def FnFieldsSeqAgainCardSaid : Prop := Claim7.holds Tryd.pinned (.plain (OpenSpec.ofChange fnFieldsSeqAgainSpec)) fnFieldsSeqAgainCard

/-- THE TIED CARD OF 'laws.FnExactTrimSpace'. -/
def fnExactTrimSpaceCard : Claim7 := { stood := { row := fnExactTrimSpaceRow, standIns := [], harness := (true, "27b2609f5f65d6dd1498c3df6adbafb52ef186e67687ce2cbf8bab08708c2fb8"), looks := false }, kinds := [], alts := [], laidByText := true, laidKinds := [.data, .listed, .data, .pinned], laidTests := true, laidLooks := .later }
def FnExactTrimSpaceCardSaid : Prop := Claim7.holds Tryd.pinned (.plain (OpenSpec.ofChange fnExactTrimSpaceSpec)) fnExactTrimSpaceCard

/-- THE TIED CARD OF 'laws.FnFieldsSeqs'. -/
def fnFieldsSeqsCard : Claim7 := { stood := { row := fnFieldsSeqsRow, standIns := [], harness := (true, "27b2609f5f65d6dd1498c3df6adbafb52ef186e67687ce2cbf8bab08708c2fb8"), looks := false }, kinds := [], alts := [], laidByText := true, laidKinds := [.data, .listed, .data, .pinned], laidTests := true, laidLooks := .later }
def FnFieldsSeqsCardSaid : Prop := Claim7.holds Tryd.pinned (.plain (OpenSpec.ofChange fnFieldsSeqsSpec)) fnFieldsSeqsCard

/-- THE SECOND FORM's CARD OF 'laws.FnTrimSpaceTest'. -/
def fnTrimSpaceTestUptoCard : Claim7 := { stood := { row := fnTrimSpaceTestUptoRow, standIns := [], harness := (true, "27b2609f5f65d6dd1498c3df6adbafb52ef186e67687ce2cbf8bab08708c2fb8"), looks := false }, kinds := [], alts := [], laidByText := true, laidKinds := [.data, .listed, .data, .pinned], laidTests := true, laidLooks := .later }
def FnTrimSpaceTestUptoCardSaid : Prop := Claim7.holds Tryd.pinned (.plain (OpenSpec.upto fnTrimSpaceTestSpec)) fnTrimSpaceTestUptoCard

/-- THE SECOND FORM's CARD OF 'laws.FnTrimSpaceOne'. -/
def fnTrimSpaceOneUptoCard : Claim7 := { stood := { row := fnTrimSpaceOneUptoRow, standIns := [], harness := (true, "27b2609f5f65d6dd1498c3df6adbafb52ef186e67687ce2cbf8bab08708c2fb8"), looks := false }, kinds := [], alts := [], laidByText := true, laidKinds := [.data, .listed, .data, .pinned], laidTests := true, laidLooks := .later }
def FnTrimSpaceOneUptoCardSaid : Prop := Claim7.holds Tryd.pinned (.plain (OpenSpec.upto fnTrimSpaceOneSpec)) fnTrimSpaceOneUptoCard

/-- THE SECOND FORM's CARD OF 'laws.FnFieldsWords'. -/
def fnFieldsWordsUptoCard : Claim7 := { stood := { row := fnFieldsWordsUptoRow, standIns := [], harness := (true, "27b2609f5f65d6dd1498c3df6adbafb52ef186e67687ce2cbf8bab08708c2fb8"), looks := false }, kinds := [], alts := [], laidByText := true, laidKinds := [.data, .listed, .data, .pinned], laidTests := true, laidLooks := .later }
def FnFieldsWordsUptoCardSaid : Prop := Claim7.holds Tryd.pinned (.plain (OpenSpec.upto fnFieldsWordsSpec)) fnFieldsWordsUptoCard

/-- THE SECOND FORM's CARD OF 'laws.FnExactFieldsSeq'. -/
def fnExactFieldsSeqUptoCard : Claim7 := { stood := { row := fnExactFieldsSeqUptoRow, standIns := [], harness := (true, "27b2609f5f65d6dd1498c3df6adbafb52ef186e67687ce2cbf8bab08708c2fb8"), looks := false }, kinds := [], alts := [], laidByText := true, laidKinds := [.data, .listed, .data, .pinned], laidTests := true, laidLooks := .later }
def FnExactFieldsSeqUptoCardSaid : Prop := Claim7.holds Tryd.pinned (.plain (OpenSpec.upto fnExactFieldsSeqSpec)) fnExactFieldsSeqUptoCard

/-- THE SECOND FORM's CARD OF 'laws.FnExactFields'. -/
def fnExactFieldsUptoCard : Claim7 := { stood := { row := fnExactFieldsUptoRow, standIns := [], harness := (true, "27b2609f5f65d6dd1498c3df6adbafb52ef186e67687ce2cbf8bab08708c2fb8"), looks := false }, kinds := [], alts := [], laidByText := true, laidKinds := [.data, .listed, .data, .pinned], laidTests := true, laidLooks := .later }
def FnExactFieldsUptoCardSaid : Prop := Claim7.holds Tryd.pinned (.plain (OpenSpec.upto fnExactFieldsSpec)) fnExactFieldsUptoCard

/-- THE SECOND FORM's CARD OF 'laws.FnFieldsMore'. -/
def fnFieldsMoreUptoCard : Claim7 := { stood := { row := fnFieldsMoreUptoRow, standIns := [], harness := (true, "27b2609f5f65d6dd1498c3df6adbafb52ef186e67687ce2cbf8bab08708c2fb8"), looks := false }, kinds := [], alts := [], laidByText := true, laidKinds := [.data, .listed, .data, .pinned], laidTests := true, laidLooks := .later }
def FnFieldsMoreUptoCardSaid : Prop := Claim7.holds Tryd.pinned (.plain (OpenSpec.upto fnFieldsMoreSpec)) fnFieldsMoreUptoCard

/-- THE SECOND FORM's CARD OF 'laws.FnFieldsSeqAgain'. -/
def fnFieldsSeqAgainUptoCard : Claim7 := { stood := { row := fnFieldsSeqAgainUptoRow, standIns := [], harness := (true, "27b2609f5f65d6dd1498c3df6adbafb52ef186e67687ce2cbf8bab08708c2fb8"), looks := false }, kinds := [], alts := [], laidByText := true, laidKinds := [.data, .listed, .data, .pinned], laidTests := true, laidLooks := .later }
def FnFieldsSeqAgainUptoCardSaid : Prop := Claim7.holds Tryd.pinned (.plain (OpenSpec.upto fnFieldsSeqAgainSpec)) fnFieldsSeqAgainUptoCard

/-- THE SECOND FORM's CARD OF 'laws.FnExactTrimSpace'. -/
def fnExactTrimSpaceUptoCard : Claim7 := { stood := { row := fnExactTrimSpaceUptoRow, standIns := [], harness := (true, "27b2609f5f65d6dd1498c3df6adbafb52ef186e67687ce2cbf8bab08708c2fb8"), looks := false }, kinds := [], alts := [], laidByText := true, laidKinds := [.data, .listed, .data, .pinned], laidTests := true, laidLooks := .later }
def FnExactTrimSpaceUptoCardSaid : Prop := Claim7.holds Tryd.pinned (.plain (OpenSpec.upto fnExactTrimSpaceSpec)) fnExactTrimSpaceUptoCard

/-- THE SECOND FORM's CARD OF 'laws.FnFieldsSeqs'. -/
def fnFieldsSeqsUptoCard : Claim7 := { stood := { row := fnFieldsSeqsUptoRow, standIns := [], harness := (true, "27b2609f5f65d6dd1498c3df6adbafb52ef186e67687ce2cbf8bab08708c2fb8"), looks := false }, kinds := [], alts := [], laidByText := true, laidKinds := [.data, .listed, .data, .pinned], laidTests := true, laidLooks := .later }
def FnFieldsSeqsUptoCardSaid : Prop := Claim7.holds Tryd.pinned (.plain (OpenSpec.upto fnFieldsSeqsSpec)) fnFieldsSeqsUptoCard
end Rows
end Go.Proofs.YthbfdajbajijeaaDoor
