/-
  DERIVED. GIVEN WITH THE SEED: THE CARDS: each row of YtlbaoghebjaliaaDoorRows.lean that lists a variable, with what it lists TIED to the program's text (the seventh form; the later family's looks); each row that meets fmt, with fmt's text TOLD by the authors' own Lean function (tested against real Go, not proved from fmt's source: count such statements apart). THE CARD IS WHAT COUNTS. Prove the row's statement (the work); the ties are given (YtlbaoghebjaliaaDoorTie.lean); close each card by the builder's one call (the guide's Derived/Test/ToyasCard.lean, 'card_holds'). Laid BY PROGRAM, IN A SANDBOX (cutbox-door.mjs). By AI agents, Wed Nov 11 2026. No macro, syntax, notation, axiom, sorry.
-/
import Derived.Test.YtlbaoghebjaliaaDoorRows
import GoSem.ClaimSeven
namespace Go.Proofs.YtlbaoghebjaliaaDoor
namespace Rows

/-- THE TIED CARD OF 'laws.FnFieldsFuncParts'. -/
def fnFieldsFuncPartsCard : Claim7 := { stood := { row := fnFieldsFuncPartsRow, standIns := [], harness := (true, "58d5cea162873150a971963bb410f90796d37fd34cdcf2c8835c29476008fbbc"), looks := false }, kinds := [], alts := [], laidByText := true, laidKinds := [.data, .pinned], laidTests := true, laidLooks := .later }
def FnFieldsFuncPartsCardSaid : Prop := Claim7.holds Tryd.pinned (.plain (OpenSpec.ofChange fnFieldsFuncPartsSpec)) fnFieldsFuncPartsCard

/-- THE TIED CARD OF 'laws.FnFieldsFuncTrim'. -/
def fnFieldsFuncTrimCard : Claim7 := { stood := { row := fnFieldsFuncTrimRow, standIns := [], harness := (true, "58d5cea162873150a971963bb410f90796d37fd34cdcf2c8835c29476008fbbc"), looks := false }, kinds := [], alts := [], laidByText := true, laidKinds := [.data, .pinned], laidTests := true, laidLooks := .later }
def FnFieldsFuncTrimCardSaid : Prop := Claim7.holds Tryd.pinned (.plain (OpenSpec.ofChange fnFieldsFuncTrimSpec)) fnFieldsFuncTrimCard

/-- THE TIED CARD OF 'laws.FnLinesFields'. -/
def fnLinesFieldsCard : Claim7 := { stood := { row := fnLinesFieldsRow, standIns := [], harness := (true, "58d5cea162873150a971963bb410f90796d37fd34cdcf2c8835c29476008fbbc"), looks := false }, kinds := [], alts := [], laidByText := true, laidKinds := [.data, .pinned], laidTests := true, laidLooks := .later }
def FnLinesFieldsCardSaid : Prop := Claim7.holds Tryd.pinned (.plain (OpenSpec.ofChange fnLinesFieldsSpec)) fnLinesFieldsCard

/-- THE TIED CARD OF 'laws.FnValidAgain'. -/
def fnValidAgainCard : Claim7 := { stood := { row := fnValidAgainRow, standIns := [], harness := (true, "58d5cea162873150a971963bb410f90796d37fd34cdcf2c8835c29476008fbbc"), looks := false }, kinds := [], alts := [], laidByText := true, laidKinds := [.data, .pinned], laidTests := true, laidLooks := .later }
def FnValidAgainCardSaid : Prop := Claim7.holds Tryd.pinned (.plain (OpenSpec.ofChange fnValidAgainSpec)) fnValidAgainCard

/-- THE TIED CARD OF 'laws.FnValidIs'. -/
def fnValidIsCard : Claim7 := { stood := { row := fnValidIsRow, standIns := [], harness := (true, "58d5cea162873150a971963bb410f90796d37fd34cdcf2c8835c29476008fbbc"), looks := false }, kinds := [], alts := [], laidByText := true, laidKinds := [.data, .pinned], laidTests := true, laidLooks := .later }
def FnValidIsCardSaid : Prop := Claim7.holds Tryd.pinned (.plain (OpenSpec.ofChange fnValidIsSpec)) fnValidIsCard

/-- THE TIED CARD OF 'laws.FnExactMap'. -/
def fnExactMapCard : Claim7 := { stood := { row := fnExactMapRow, standIns := [], harness := (true, "58d5cea162873150a971963bb410f90796d37fd34cdcf2c8835c29476008fbbc"), looks := false }, kinds := [], alts := [], laidByText := true, laidKinds := [.data, .pinned], laidTests := true, laidLooks := .later }
def FnExactMapCardSaid : Prop := Claim7.holds Tryd.pinned (.plain (OpenSpec.ofChange fnExactMapSpec)) fnExactMapCard

/-- THE TIED CARD OF 'laws.FnMapCount'. -/
def fnMapCountCard : Claim7 := { stood := { row := fnMapCountRow, standIns := [], harness := (true, "58d5cea162873150a971963bb410f90796d37fd34cdcf2c8835c29476008fbbc"), looks := false }, kinds := [], alts := [], laidByText := true, laidKinds := [.data, .pinned], laidTests := true, laidLooks := .later }
def FnMapCountCardSaid : Prop := Claim7.holds Tryd.pinned (.plain (OpenSpec.ofChange fnMapCountSpec)) fnMapCountCard

/-- THE TIED CARD OF 'laws.FnMapSelf'. -/
def fnMapSelfCard : Claim7 := { stood := { row := fnMapSelfRow, standIns := [], harness := (true, "58d5cea162873150a971963bb410f90796d37fd34cdcf2c8835c29476008fbbc"), looks := false }, kinds := [], alts := [], laidByText := true, laidKinds := [.data, .pinned], laidTests := true, laidLooks := .later }
def FnMapSelfCardSaid : Prop := Claim7.holds Tryd.pinned (.plain (OpenSpec.ofChange fnMapSelfSpec)) fnMapSelfCard

/-- THE TIED CARD OF 'laws.FnMapTwice'. -/
def fnMapTwiceCard : Claim7 := { stood := { row := fnMapTwiceRow, standIns := [], harness := (true, "58d5cea162873150a971963bb410f90796d37fd34cdcf2c8835c29476008fbbc"), looks := false }, kinds := [], alts := [], laidByText := true, laidKinds := [.data, .pinned], laidTests := true, laidLooks := .later }
def FnMapTwiceCardSaid : Prop := Claim7.holds Tryd.pinned (.plain (OpenSpec.ofChange fnMapTwiceSpec)) fnMapTwiceCard

/-- THE TIED CARD OF 'laws.FnRunesMap'. -/
def fnRunesMapCard : Claim7 := { stood := { row := fnRunesMapRow, standIns := [], harness := (true, "58d5cea162873150a971963bb410f90796d37fd34cdcf2c8835c29476008fbbc"), looks := false }, kinds := [], alts := [], laidByText := true, laidKinds := [.data, .pinned], laidTests := true, laidLooks := .later }
def FnRunesMapCardSaid : Prop := Claim7.holds Tryd.pinned (.plain (OpenSpec.ofChange fnRunesMapSpec)) fnRunesMapCard

/-- THE TIED CARD OF 'laws.FnValidMap'. -/
def fnValidMapCard : Claim7 := { stood := { row := fnValidMapRow, standIns := [], harness := (true, "58d5cea162873150a971963bb410f90796d37fd34cdcf2c8835c29476008fbbc"), looks := false }, kinds := [], alts := [], laidByText := true, laidKinds := [.data, .pinned], laidTests := true, laidLooks := .later }
def FnValidMapCardSaid : Prop := Claim7.holds Tryd.pinned (.plain (OpenSpec.ofChange fnValidMapSpec)) fnValidMapCard

/-- THE TIED CARD OF 'laws.FnRepeatMap'. -/
def fnRepeatMapCard : Claim7 := { stood := { row := fnRepeatMapRow, standIns := [], harness := (true, "58d5cea162873150a971963bb410f90796d37fd34cdcf2c8835c29476008fbbc"), looks := false }, kinds := [], alts := [], laidByText := true, laidKinds := [.data, .pinned], laidTests := true, laidLooks := .later }
def FnRepeatMapCardSaid : Prop := Claim7.holds Tryd.pinned (.plain (OpenSpec.ofChange fnRepeatMapSpec)) fnRepeatMapCard

/-- THE SECOND FORM's CARD OF 'laws.FnFieldsFuncParts'. -/
def fnFieldsFuncPartsUptoCard : Claim7 := { stood := { row := fnFieldsFuncPartsUptoRow, standIns := [], harness := (true, "58d5cea162873150a971963bb410f90796d37fd34cdcf2c8835c29476008fbbc"), looks := false }, kinds := [], alts := [], laidByText := true, laidKinds := [.data, .pinned], laidTests := true, laidLooks := .later }
def FnFieldsFuncPartsUptoCardSaid : Prop := Claim7.holds Tryd.pinned (.plain (OpenSpec.upto fnFieldsFuncPartsSpec)) fnFieldsFuncPartsUptoCard

/-- THE SECOND FORM's CARD OF 'laws.FnFieldsFuncTrim'. -/
def fnFieldsFuncTrimUptoCard : Claim7 := { stood := { row := fnFieldsFuncTrimUptoRow, standIns := [], harness := (true, "58d5cea162873150a971963bb410f90796d37fd34cdcf2c8835c29476008fbbc"), looks := false }, kinds := [], alts := [], laidByText := true, laidKinds := [.data, .pinned], laidTests := true, laidLooks := .later }
def FnFieldsFuncTrimUptoCardSaid : Prop := Claim7.holds Tryd.pinned (.plain (OpenSpec.upto fnFieldsFuncTrimSpec)) fnFieldsFuncTrimUptoCard

/-- THE SECOND FORM's CARD OF 'laws.FnLinesFields'. -/
def fnLinesFieldsUptoCard : Claim7 := { stood := { row := fnLinesFieldsUptoRow, standIns := [], harness := (true, "58d5cea162873150a971963bb410f90796d37fd34cdcf2c8835c29476008fbbc"), looks := false }, kinds := [], alts := [], laidByText := true, laidKinds := [.data, .pinned], laidTests := true, laidLooks := .later }
def FnLinesFieldsUptoCardSaid : Prop := Claim7.holds Tryd.pinned (.plain (OpenSpec.upto fnLinesFieldsSpec)) fnLinesFieldsUptoCard

/-- THE SECOND FORM's CARD OF 'laws.FnValidAgain'. -/
def fnValidAgainUptoCard : Claim7 := { stood := { row := fnValidAgainUptoRow, standIns := [], harness := (true, "58d5cea162873150a971963bb410f90796d37fd34cdcf2c8835c29476008fbbc"), looks := false }, kinds := [], alts := [], laidByText := true, laidKinds := [.data, .pinned], laidTests := true, laidLooks := .later }
def FnValidAgainUptoCardSaid : Prop := Claim7.holds Tryd.pinned (.plain (OpenSpec.upto fnValidAgainSpec)) fnValidAgainUptoCard

/-- THE SECOND FORM's CARD OF 'laws.FnValidIs'. -/
def fnValidIsUptoCard : Claim7 := { stood := { row := fnValidIsUptoRow, standIns := [], harness := (true, "58d5cea162873150a971963bb410f90796d37fd34cdcf2c8835c29476008fbbc"), looks := false }, kinds := [], alts := [], laidByText := true, laidKinds := [.data, .pinned], laidTests := true, laidLooks := .later }
def FnValidIsUptoCardSaid : Prop := Claim7.holds Tryd.pinned (.plain (OpenSpec.upto fnValidIsSpec)) fnValidIsUptoCard

/-- THE SECOND FORM's CARD OF 'laws.FnExactMap'. -/
def fnExactMapUptoCard : Claim7 := { stood := { row := fnExactMapUptoRow, standIns := [], harness := (true, "58d5cea162873150a971963bb410f90796d37fd34cdcf2c8835c29476008fbbc"), looks := false }, kinds := [], alts := [], laidByText := true, laidKinds := [.data, .pinned], laidTests := true, laidLooks := .later }
def FnExactMapUptoCardSaid : Prop := Claim7.holds Tryd.pinned (.plain (OpenSpec.upto fnExactMapSpec)) fnExactMapUptoCard

/-- THE SECOND FORM's CARD OF 'laws.FnMapCount'. -/
def fnMapCountUptoCard : Claim7 := { stood := { row := fnMapCountUptoRow, standIns := [], harness := (true, "58d5cea162873150a971963bb410f90796d37fd34cdcf2c8835c29476008fbbc"), looks := false }, kinds := [], alts := [], laidByText := true, laidKinds := [.data, .pinned], laidTests := true, laidLooks := .later }
def FnMapCountUptoCardSaid : Prop := Claim7.holds Tryd.pinned (.plain (OpenSpec.upto fnMapCountSpec)) fnMapCountUptoCard

/-- THE SECOND FORM's CARD OF 'laws.FnMapSelf'. -/
def fnMapSelfUptoCard : Claim7 := { stood := { row := fnMapSelfUptoRow, standIns := [], harness := (true, "58d5cea162873150a971963bb410f90796d37fd34cdcf2c8835c29476008fbbc"), looks := false }, kinds := [], alts := [], laidByText := true, laidKinds := [.data, .pinned], laidTests := true, laidLooks := .later }
def FnMapSelfUptoCardSaid : Prop := Claim7.holds Tryd.pinned (.plain (OpenSpec.upto fnMapSelfSpec)) fnMapSelfUptoCard

/-- THE SECOND FORM's CARD OF 'laws.FnMapTwice'. -/
def fnMapTwiceUptoCard : Claim7 := { stood := { row := fnMapTwiceUptoRow, standIns := [], harness := (true, "58d5cea162873150a971963bb410f90796d37fd34cdcf2c8835c29476008fbbc"), looks := false }, kinds := [], alts := [], laidByText := true, laidKinds := [.data, .pinned], laidTests := true, laidLooks := .later }
def FnMapTwiceUptoCardSaid : Prop := Claim7.holds Tryd.pinned (.plain (OpenSpec.upto fnMapTwiceSpec)) fnMapTwiceUptoCard

/-- THE SECOND FORM's CARD OF 'laws.FnRunesMap'. -/
def fnRunesMapUptoCard : Claim7 := { stood := { row := fnRunesMapUptoRow, standIns := [], harness := (true, "58d5cea162873150a971963bb410f90796d37fd34cdcf2c8835c29476008fbbc"), looks := false }, kinds := [], alts := [], laidByText := true, laidKinds := [.data, .pinned], laidTests := true, laidLooks := .later }
def FnRunesMapUptoCardSaid : Prop := Claim7.holds Tryd.pinned (.plain (OpenSpec.upto fnRunesMapSpec)) fnRunesMapUptoCard

/-- THE SECOND FORM's CARD OF 'laws.FnValidMap'. -/
def fnValidMapUptoCard : Claim7 := { stood := { row := fnValidMapUptoRow, standIns := [], harness := (true, "58d5cea162873150a971963bb410f90796d37fd34cdcf2c8835c29476008fbbc"), looks := false }, kinds := [], alts := [], laidByText := true, laidKinds := [.data, .pinned], laidTests := true, laidLooks := .later }
def FnValidMapUptoCardSaid : Prop := Claim7.holds Tryd.pinned (.plain (OpenSpec.upto fnValidMapSpec)) fnValidMapUptoCard

/-- THE SECOND FORM's CARD OF 'laws.FnRepeatMap'. -/
def fnRepeatMapUptoCard : Claim7 := { stood := { row := fnRepeatMapUptoRow, standIns := [], harness := (true, "58d5cea162873150a971963bb410f90796d37fd34cdcf2c8835c29476008fbbc"), looks := false }, kinds := [], alts := [], laidByText := true, laidKinds := [.data, .pinned], laidTests := true, laidLooks := .later }
def FnRepeatMapUptoCardSaid : Prop := Claim7.holds Tryd.pinned (.plain (OpenSpec.upto fnRepeatMapSpec)) fnRepeatMapUptoCard
end Rows
end Go.Proofs.YtlbaoghebjaliaaDoor
