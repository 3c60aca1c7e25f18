/-
  DERIVED. GIVEN WITH THE SEED: THE CARDS: each row of YtddakfdlgfadeaaDoorRows.lean that lists a variable, with what it lists TIED to the program's text (the seventh form; the later family's looks); each row that meets fmt, with fmt's text TOLD by the authors' own Lean function (tested against real Go, not proved from fmt's source: count such statements apart). THE CARD IS WHAT COUNTS. Prove the row's statement (the work); the ties are given (YtddakfdlgfadeaaDoorTie.lean); close each card by the builder's one call (the guide's Derived/Test/ToyasCard.lean, 'card_holds'). Laid BY PROGRAM, IN A SANDBOX (cutbox-door.mjs). By AI agents, Wed Nov 11 2026. No macro, syntax, notation, axiom, sorry.
-/
import Derived.Test.YtddakfdlgfadeaaDoorRows
import GoSem.ClaimSeven
namespace Go.Proofs.YtddakfdlgfadeaaDoor
namespace Rows

/-- THE TIED CARD OF 'laws.FnExactIndexFunc'. -/
def fnExactIndexFuncCard : Claim7 := { stood := { row := fnExactIndexFuncRow, standIns := [], harness := (true, "2ac32f2cd7b54786b21c3889d0ff82db74170bfa37a73af112f580964225dea5"), looks := false }, kinds := [], alts := [], laidByText := true, laidKinds := [.data, .pinned], laidTests := true, laidLooks := .later }
def FnExactIndexFuncCardSaid : Prop := Claim7.holds Tryd.pinned (.plain (OpenSpec.ofChange fnExactIndexFuncSpec)) fnExactIndexFuncCard

/-- THE TIED CARD OF 'laws.FnIndexFuncNot'. -/
def fnIndexFuncNotCard : Claim7 := { stood := { row := fnIndexFuncNotRow, standIns := [], harness := (true, "2ac32f2cd7b54786b21c3889d0ff82db74170bfa37a73af112f580964225dea5"), looks := false }, kinds := [], alts := [], laidByText := true, laidKinds := [.data, .pinned], laidTests := true, laidLooks := .later }
def FnIndexFuncNotCardSaid : Prop := Claim7.holds Tryd.pinned (.plain (OpenSpec.ofChange fnIndexFuncNotSpec)) fnIndexFuncNotCard

/-- THE TIED CARD OF 'laws.FnExactContainsFunc'. -/
def fnExactContainsFuncCard : Claim7 := { stood := { row := fnExactContainsFuncRow, standIns := [], harness := (true, "2ac32f2cd7b54786b21c3889d0ff82db74170bfa37a73af112f580964225dea5"), looks := false }, kinds := [], alts := [], laidByText := true, laidKinds := [.data, .pinned], laidTests := true, laidLooks := .later }
def FnExactContainsFuncCardSaid : Prop := Claim7.holds Tryd.pinned (.plain (OpenSpec.ofChange fnExactContainsFuncSpec)) fnExactContainsFuncCard

/-- THE TIED CARD OF 'laws.FnExactRunes'. -/
def fnExactRunesCard : Claim7 := { stood := { row := fnExactRunesRow, standIns := [], harness := (true, "2ac32f2cd7b54786b21c3889d0ff82db74170bfa37a73af112f580964225dea5"), looks := false }, kinds := [], alts := [], laidByText := true, laidKinds := [.data, .pinned], laidTests := true, laidLooks := .later }
def FnExactRunesCardSaid : Prop := Claim7.holds Tryd.pinned (.plain (OpenSpec.ofChange fnExactRunesSpec)) fnExactRunesCard

/-- THE TIED CARD OF 'laws.FnExactTrimLeftFunc'. -/
def fnExactTrimLeftFuncCard : Claim7 := { stood := { row := fnExactTrimLeftFuncRow, standIns := [], harness := (true, "2ac32f2cd7b54786b21c3889d0ff82db74170bfa37a73af112f580964225dea5"), looks := false }, kinds := [], alts := [], laidByText := true, laidKinds := [.data, .pinned], laidTests := true, laidLooks := .later }
def FnExactTrimLeftFuncCardSaid : Prop := Claim7.holds Tryd.pinned (.plain (OpenSpec.ofChange fnExactTrimLeftFuncSpec)) fnExactTrimLeftFuncCard

/-- THE TIED CARD OF 'laws.FnExactLastIndexFunc'. -/
def fnExactLastIndexFuncCard : Claim7 := { stood := { row := fnExactLastIndexFuncRow, standIns := [], harness := (true, "2ac32f2cd7b54786b21c3889d0ff82db74170bfa37a73af112f580964225dea5"), looks := false }, kinds := [], alts := [], laidByText := true, laidKinds := [.data, .pinned], laidTests := true, laidLooks := .later }
def FnExactLastIndexFuncCardSaid : Prop := Claim7.holds Tryd.pinned (.plain (OpenSpec.ofChange fnExactLastIndexFuncSpec)) fnExactLastIndexFuncCard

/-- THE TIED CARD OF 'laws.FnExactTrimRightFunc'. -/
def fnExactTrimRightFuncCard : Claim7 := { stood := { row := fnExactTrimRightFuncRow, standIns := [], harness := (true, "2ac32f2cd7b54786b21c3889d0ff82db74170bfa37a73af112f580964225dea5"), looks := false }, kinds := [], alts := [], laidByText := true, laidKinds := [.data, .pinned], laidTests := true, laidLooks := .later }
def FnExactTrimRightFuncCardSaid : Prop := Claim7.holds Tryd.pinned (.plain (OpenSpec.ofChange fnExactTrimRightFuncSpec)) fnExactTrimRightFuncCard

/-- THE TIED CARD OF 'laws.FnIndexFuncFirst'. -/
def fnIndexFuncFirstCard : Claim7 := { stood := { row := fnIndexFuncFirstRow, standIns := [], harness := (true, "2ac32f2cd7b54786b21c3889d0ff82db74170bfa37a73af112f580964225dea5"), looks := false }, kinds := [], alts := [], laidByText := true, laidKinds := [.data, .pinned], laidTests := true, laidLooks := .later }
def FnIndexFuncFirstCardSaid : Prop := Claim7.holds Tryd.pinned (.plain (OpenSpec.ofChange fnIndexFuncFirstSpec)) fnIndexFuncFirstCard

/-- THE TIED CARD OF 'laws.FnExactTrimFunc'. -/
def fnExactTrimFuncCard : Claim7 := { stood := { row := fnExactTrimFuncRow, standIns := [], harness := (true, "2ac32f2cd7b54786b21c3889d0ff82db74170bfa37a73af112f580964225dea5"), looks := false }, kinds := [], alts := [], laidByText := true, laidKinds := [.data, .pinned], laidTests := true, laidLooks := .later }
def FnExactTrimFuncCardSaid : Prop := Claim7.holds Tryd.pinned (.plain (OpenSpec.ofChange fnExactTrimFuncSpec)) fnExactTrimFuncCard

/-- THE TIED CARD OF 'laws.FnTrimFuncSides'. -/
def fnTrimFuncSidesCard : Claim7 := { stood := { row := fnTrimFuncSidesRow, standIns := [], harness := (true, "2ac32f2cd7b54786b21c3889d0ff82db74170bfa37a73af112f580964225dea5"), looks := false }, kinds := [], alts := [], laidByText := true, laidKinds := [.data, .pinned], laidTests := true, laidLooks := .later }
def FnTrimFuncSidesCardSaid : Prop := Claim7.holds Tryd.pinned (.plain (OpenSpec.ofChange fnTrimFuncSidesSpec)) fnTrimFuncSidesCard

/-- THE TIED CARD OF 'laws.FnExactFieldsFunc'. -/
def fnExactFieldsFuncCard : Claim7 := { stood := { row := fnExactFieldsFuncRow, standIns := [], harness := (true, "2ac32f2cd7b54786b21c3889d0ff82db74170bfa37a73af112f580964225dea5"), looks := false }, kinds := [], alts := [], laidByText := true, laidKinds := [.data, .pinned], laidTests := true, laidLooks := .later }
def FnExactFieldsFuncCardSaid : Prop := Claim7.holds Tryd.pinned (.plain (OpenSpec.ofChange fnExactFieldsFuncSpec)) fnExactFieldsFuncCard

/-- THE TIED CARD OF 'laws.FnExactFieldsFuncSeq'. -/
def fnExactFieldsFuncSeqCard : Claim7 := { stood := { row := fnExactFieldsFuncSeqRow, standIns := [], harness := (true, "2ac32f2cd7b54786b21c3889d0ff82db74170bfa37a73af112f580964225dea5"), looks := false }, kinds := [], alts := [], laidByText := true, laidKinds := [.data, .pinned], laidTests := true, laidLooks := .later }
def FnExactFieldsFuncSeqCardSaid : Prop := Claim7.holds Tryd.pinned (.plain (OpenSpec.ofChange fnExactFieldsFuncSeqSpec)) fnExactFieldsFuncSeqCard

/-- THE SECOND FORM's CARD OF 'laws.FnExactIndexFunc'. -/
def fnExactIndexFuncUptoCard : Claim7 := { stood := { row := fnExactIndexFuncUptoRow, standIns := [], harness := (true, "2ac32f2cd7b54786b21c3889d0ff82db74170bfa37a73af112f580964225dea5"), looks := false }, kinds := [], alts := [], laidByText := true, laidKinds := [.data, .pinned], laidTests := true, laidLooks := .later }
def FnExactIndexFuncUptoCardSaid : Prop := Claim7.holds Tryd.pinned (.plain (OpenSpec.upto fnExactIndexFuncSpec)) fnExactIndexFuncUptoCard

/-- THE SECOND FORM's CARD OF 'laws.FnIndexFuncNot'. -/
def fnIndexFuncNotUptoCard : Claim7 := { stood := { row := fnIndexFuncNotUptoRow, standIns := [], harness := (true, "2ac32f2cd7b54786b21c3889d0ff82db74170bfa37a73af112f580964225dea5"), looks := false }, kinds := [], alts := [], laidByText := true, laidKinds := [.data, .pinned], laidTests := true, laidLooks := .later }
def FnIndexFuncNotUptoCardSaid : Prop := Claim7.holds Tryd.pinned (.plain (OpenSpec.upto fnIndexFuncNotSpec)) fnIndexFuncNotUptoCard

/-- THE SECOND FORM's CARD OF 'laws.FnExactContainsFunc'. -/
def fnExactContainsFuncUptoCard : Claim7 := { stood := { row := fnExactContainsFuncUptoRow, standIns := [], harness := (true, "2ac32f2cd7b54786b21c3889d0ff82db74170bfa37a73af112f580964225dea5"), looks := false }, kinds := [], alts := [], laidByText := true, laidKinds := [.data, .pinned], laidTests := true, laidLooks := .later }
def FnExactContainsFuncUptoCardSaid : Prop := Claim7.holds Tryd.pinned (.plain (OpenSpec.upto fnExactContainsFuncSpec)) fnExactContainsFuncUptoCard

/-- THE SECOND FORM's CARD OF 'laws.FnExactRunes'. -/
def fnExactRunesUptoCard : Claim7 := { stood := { row := fnExactRunesUptoRow, standIns := [], harness := (true, "2ac32f2cd7b54786b21c3889d0ff82db74170bfa37a73af112f580964225dea5"), looks := false }, kinds := [], alts := [], laidByText := true, laidKinds := [.data, .pinned], laidTests := true, laidLooks := .later }
def FnExactRunesUptoCardSaid : Prop := Claim7.holds Tryd.pinned (.plain (OpenSpec.upto fnExactRunesSpec)) fnExactRunesUptoCard

/-- THE SECOND FORM's CARD OF 'laws.FnExactTrimLeftFunc'. -/
def fnExactTrimLeftFuncUptoCard : Claim7 := { stood := { row := fnExactTrimLeftFuncUptoRow, standIns := [], harness := (true, "2ac32f2cd7b54786b21c3889d0ff82db74170bfa37a73af112f580964225dea5"), looks := false }, kinds := [], alts := [], laidByText := true, laidKinds := [.data, .pinned], laidTests := true, laidLooks := .later }
def FnExactTrimLeftFuncUptoCardSaid : Prop := Claim7.holds Tryd.pinned (.plain (OpenSpec.upto fnExactTrimLeftFuncSpec)) fnExactTrimLeftFuncUptoCard

/-- THE SECOND FORM's CARD OF 'laws.FnExactLastIndexFunc'. -/
def fnExactLastIndexFuncUptoCard : Claim7 := { stood := { row := fnExactLastIndexFuncUptoRow, standIns := [], harness := (true, "2ac32f2cd7b54786b21c3889d0ff82db74170bfa37a73af112f580964225dea5"), looks := false }, kinds := [], alts := [], laidByText := true, laidKinds := [.data, .pinned], laidTests := true, laidLooks := .later }
def FnExactLastIndexFuncUptoCardSaid : Prop := Claim7.holds Tryd.pinned (.plain (OpenSpec.upto fnExactLastIndexFuncSpec)) fnExactLastIndexFuncUptoCard

/-- THE SECOND FORM's CARD OF 'laws.FnExactTrimRightFunc'. -/
def fnExactTrimRightFuncUptoCard : Claim7 := { stood := { row := fnExactTrimRightFuncUptoRow, standIns := [], harness := (true, "2ac32f2cd7b54786b21c3889d0ff82db74170bfa37a73af112f580964225dea5"), looks := false }, kinds := [], alts := [], laidByText := true, laidKinds := [.data, .pinned], laidTests := true, laidLooks := .later }
def FnExactTrimRightFuncUptoCardSaid : Prop := Claim7.holds Tryd.pinned (.plain (OpenSpec.upto fnExactTrimRightFuncSpec)) fnExactTrimRightFuncUptoCard

/-- THE SECOND FORM's CARD OF 'laws.FnIndexFuncFirst'. -/
def fnIndexFuncFirstUptoCard : Claim7 := { stood := { row := fnIndexFuncFirstUptoRow, standIns := [], harness := (true, "2ac32f2cd7b54786b21c3889d0ff82db74170bfa37a73af112f580964225dea5"), looks := false }, kinds := [], alts := [], laidByText := true, laidKinds := [.data, .pinned], laidTests := true, laidLooks := .later }
def FnIndexFuncFirstUptoCardSaid : Prop := Claim7.holds Tryd.pinned (.plain (OpenSpec.upto fnIndexFuncFirstSpec)) fnIndexFuncFirstUptoCard

/-- THE SECOND FORM's CARD OF 'laws.FnExactTrimFunc'. -/
def fnExactTrimFuncUptoCard : Claim7 := { stood := { row := fnExactTrimFuncUptoRow, standIns := [], harness := (true, "2ac32f2cd7b54786b21c3889d0ff82db74170bfa37a73af112f580964225dea5"), looks := false }, kinds := [], alts := [], laidByText := true, laidKinds := [.data, .pinned], laidTests := true, laidLooks := .later }
def FnExactTrimFuncUptoCardSaid : Prop := Claim7.holds Tryd.pinned (.plain (OpenSpec.upto fnExactTrimFuncSpec)) fnExactTrimFuncUptoCard

/-- THE SECOND FORM's CARD OF 'laws.FnTrimFuncSides'. -/
def fnTrimFuncSidesUptoCard : Claim7 := { stood := { row := fnTrimFuncSidesUptoRow, standIns := [], harness := (true, "2ac32f2cd7b54786b21c3889d0ff82db74170bfa37a73af112f580964225dea5"), looks := false }, kinds := [], alts := [], laidByText := true, laidKinds := [.data, .pinned], laidTests := true, laidLooks := .later }
def FnTrimFuncSidesUptoCardSaid : Prop := Claim7.holds Tryd.pinned (.plain (OpenSpec.upto fnTrimFuncSidesSpec)) fnTrimFuncSidesUptoCard

/-- THE SECOND FORM's CARD OF 'laws.FnExactFieldsFunc'. -/
def fnExactFieldsFuncUptoCard : Claim7 := { stood := { row := fnExactFieldsFuncUptoRow, standIns := [], harness := (true, "2ac32f2cd7b54786b21c3889d0ff82db74170bfa37a73af112f580964225dea5"), looks := false }, kinds := [], alts := [], laidByText := true, laidKinds := [.data, .pinned], laidTests := true, laidLooks := .later }
def FnExactFieldsFuncUptoCardSaid : Prop := Claim7.holds Tryd.pinned (.plain (OpenSpec.upto fnExactFieldsFuncSpec)) fnExactFieldsFuncUptoCard

/-- THE SECOND FORM's CARD OF 'laws.FnExactFieldsFuncSeq'. -/
def fnExactFieldsFuncSeqUptoCard : Claim7 := { stood := { row := fnExactFieldsFuncSeqUptoRow, standIns := [], harness := (true, "2ac32f2cd7b54786b21c3889d0ff82db74170bfa37a73af112f580964225dea5"), looks := false }, kinds := [], alts := [], laidByText := true, laidKinds := [.data, .pinned], laidTests := true, laidLooks := .later }
def FnExactFieldsFuncSeqUptoCardSaid : Prop := Claim7.holds Tryd.pinned (.plain (OpenSpec.upto fnExactFieldsFuncSeqSpec)) fnExactFieldsFuncSeqUptoCard
end Rows
end Go.Proofs.YtddakfdlgfadeaaDoor
