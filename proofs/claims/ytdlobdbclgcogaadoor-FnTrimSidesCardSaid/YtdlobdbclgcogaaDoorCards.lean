/-
  DERIVED. GIVEN WITH THE SEED: THE CARDS: each row of YtdlobdbclgcogaaDoorRows.lean that lists a variable, with what it lists TIED to the program's text (the seventh form; the later family's looks); each row that meets fmt, with fmt's text TOLD by the authors' own Lean function (tested against real Go, not proved from fmt's source: count such statements apart). THE CARD IS WHAT COUNTS. Prove the row's statement (the work); the ties are given (YtdlobdbclgcogaaDoorTie.lean); close each card by the builder's one call (the guide's Derived/Test/ToyasCard.lean, 'card_holds'). Laid BY PROGRAM, IN A SANDBOX (cutbox-door.mjs). By AI agents, Wed Nov 11 2026. No macro, syntax, notation, axiom, sorry.
-/
import Derived.Test.YtdlobdbclgcogaaDoorRows
import GoSem.ClaimSeven
namespace Go.Proofs.YtdlobdbclgcogaaDoor
namespace Rows

/-- THE TIED CARD OF 'laws.FnFieldsFuncDrop'. -/
def fnFieldsFuncDropCard : Claim7 := { stood := { row := fnFieldsFuncDropRow, standIns := [], harness := (true, "d52d5bdc321c6044ad19a27c3f7078e0d6865c29f0bb00bfb39c5c54577058e4"), looks := false }, kinds := [], alts := [], laidByText := true, laidKinds := [.data, .pinned], laidTests := true, laidLooks := .later }
def FnFieldsFuncDropCardSaid : Prop := Claim7.holds Tryd.pinned (.plain (OpenSpec.ofChange fnFieldsFuncDropSpec)) fnFieldsFuncDropCard

/-- THE TIED CARD OF 'laws.FnExactTrimLeft'. -/
def fnExactTrimLeftCard : Claim7 := { stood := { row := fnExactTrimLeftRow, standIns := [], harness := (true, "d52d5bdc321c6044ad19a27c3f7078e0d6865c29f0bb00bfb39c5c54577058e4"), looks := false }, kinds := [], alts := [], laidByText := true, laidKinds := [.data, .pinned], laidTests := true, laidLooks := .later }
def FnExactTrimLeftCardSaid : Prop := Claim7.holds Tryd.pinned (.plain (OpenSpec.ofChange fnExactTrimLeftSpec)) fnExactTrimLeftCard

/-- THE TIED CARD OF 'laws.FnExactTrimRight'. -/
def fnExactTrimRightCard : Claim7 := { stood := { row := fnExactTrimRightRow, standIns := [], harness := (true, "d52d5bdc321c6044ad19a27c3f7078e0d6865c29f0bb00bfb39c5c54577058e4"), looks := false }, kinds := [], alts := [], laidByText := true, laidKinds := [.data, .pinned], laidTests := true, laidLooks := .later }
def FnExactTrimRightCardSaid : Prop := Claim7.holds Tryd.pinned (.plain (OpenSpec.ofChange fnExactTrimRightSpec)) fnExactTrimRightCard

/-- THE TIED CARD OF 'laws.FnExactTrim'. -/
def fnExactTrimCard : Claim7 := { stood := { row := fnExactTrimRow, standIns := [], harness := (true, "d52d5bdc321c6044ad19a27c3f7078e0d6865c29f0bb00bfb39c5c54577058e4"), looks := false }, kinds := [], alts := [], laidByText := true, laidKinds := [.data, .pinned], laidTests := true, laidLooks := .later }
def FnExactTrimCardSaid : Prop := Claim7.holds Tryd.pinned (.plain (OpenSpec.ofChange fnExactTrimSpec)) fnExactTrimCard

/-- THE TIED CARD OF 'laws.FnTrimAgain'. -/
def fnTrimAgainCard : Claim7 := { stood := { row := fnTrimAgainRow, standIns := [], harness := (true, "d52d5bdc321c6044ad19a27c3f7078e0d6865c29f0bb00bfb39c5c54577058e4"), looks := false }, kinds := [], alts := [], laidByText := true, laidKinds := [.data, .pinned], laidTests := true, laidLooks := .later }
def FnTrimAgainCardSaid : Prop := Claim7.holds Tryd.pinned (.plain (OpenSpec.ofChange fnTrimAgainSpec)) fnTrimAgainCard

/-- THE TIED CARD OF 'laws.FnTrimSides'. -/
def fnTrimSidesCard : Claim7 := { stood := { row := fnTrimSidesRow, standIns := [], harness := (true, "d52d5bdc321c6044ad19a27c3f7078e0d6865c29f0bb00bfb39c5c54577058e4"), looks := false }, kinds := [], alts := [], laidByText := true, laidKinds := [.data, .pinned], laidTests := true, laidLooks := .later }
def FnTrimSidesCardSaid : Prop := Claim7.holds Tryd.pinned (.plain (OpenSpec.ofChange fnTrimSidesSpec)) fnTrimSidesCard

/-- THE TIED CARD OF 'laws.FnTrimEnds'. -/
def fnTrimEndsCard : Claim7 := { stood := { row := fnTrimEndsRow, standIns := [], harness := (true, "d52d5bdc321c6044ad19a27c3f7078e0d6865c29f0bb00bfb39c5c54577058e4"), looks := false }, kinds := [], alts := [], laidByText := true, laidKinds := [.data, .pinned], laidTests := true, laidLooks := .later }
def FnTrimEndsCardSaid : Prop := Claim7.holds Tryd.pinned (.plain (OpenSpec.ofChange fnTrimEndsSpec)) fnTrimEndsCard

/-- THE TIED CARD OF 'laws.FnTrimDrop'. -/
def fnTrimDropCard : Claim7 := { stood := { row := fnTrimDropRow, standIns := [], harness := (true, "d52d5bdc321c6044ad19a27c3f7078e0d6865c29f0bb00bfb39c5c54577058e4"), looks := false }, kinds := [], alts := [], laidByText := true, laidKinds := [.data, .pinned], laidTests := true, laidLooks := .later }
def FnTrimDropCardSaid : Prop := Claim7.holds Tryd.pinned (.plain (OpenSpec.ofChange fnTrimDropSpec)) fnTrimDropCard

/-- THE TIED CARD OF 'laws.FnTrimTest'. -/
def fnTrimTestCard : Claim7 := { stood := { row := fnTrimTestRow, standIns := [], harness := (true, "d52d5bdc321c6044ad19a27c3f7078e0d6865c29f0bb00bfb39c5c54577058e4"), looks := false }, kinds := [], alts := [], laidByText := true, laidKinds := [.data, .pinned], laidTests := true, laidLooks := .later }
def FnTrimTestCardSaid : Prop := Claim7.holds Tryd.pinned (.plain (OpenSpec.ofChange fnTrimTestSpec)) fnTrimTestCard

/-- THE TIED CARD OF 'laws.FnExactMap'. -/
def fnExactMapCard : Claim7 := { stood := { row := fnExactMapRow, standIns := [], harness := (true, "d52d5bdc321c6044ad19a27c3f7078e0d6865c29f0bb00bfb39c5c54577058e4"), looks := false }, kinds := [], alts := [], laidByText := true, laidKinds := [.data, .pinned], laidTests := true, laidLooks := .later }
def FnExactMapCardSaid : Prop := Claim7.holds Tryd.pinned (.plain (OpenSpec.ofChange fnExactMapSpec)) fnExactMapCard

/-- THE SECOND FORM's CARD OF 'laws.FnFieldsFuncDrop'. -/
def fnFieldsFuncDropUptoCard : Claim7 := { stood := { row := fnFieldsFuncDropUptoRow, standIns := [], harness := (true, "d52d5bdc321c6044ad19a27c3f7078e0d6865c29f0bb00bfb39c5c54577058e4"), looks := false }, kinds := [], alts := [], laidByText := true, laidKinds := [.data, .pinned], laidTests := true, laidLooks := .later }
def FnFieldsFuncDropUptoCardSaid : Prop := Claim7.holds Tryd.pinned (.plain (OpenSpec.upto fnFieldsFuncDropSpec)) fnFieldsFuncDropUptoCard

/-- THE SECOND FORM's CARD OF 'laws.FnExactTrimLeft'. -/
def fnExactTrimLeftUptoCard : Claim7 := { stood := { row := fnExactTrimLeftUptoRow, standIns := [], harness := (true, "d52d5bdc321c6044ad19a27c3f7078e0d6865c29f0bb00bfb39c5c54577058e4"), looks := false }, kinds := [], alts := [], laidByText := true, laidKinds := [.data, .pinned], laidTests := true, laidLooks := .later }
def FnExactTrimLeftUptoCardSaid : Prop := Claim7.holds Tryd.pinned (.plain (OpenSpec.upto fnExactTrimLeftSpec)) fnExactTrimLeftUptoCard

/-- THE SECOND FORM's CARD OF 'laws.FnExactTrimRight'. -/
def fnExactTrimRightUptoCard : Claim7 := { stood := { row := fnExactTrimRightUptoRow, standIns := [], harness := (true, "d52d5bdc321c6044ad19a27c3f7078e0d6865c29f0bb00bfb39c5c54577058e4"), looks := false }, kinds := [], alts := [], laidByText := true, laidKinds := [.data, .pinned], laidTests := true, laidLooks := .later }
def FnExactTrimRightUptoCardSaid : Prop := Claim7.holds Tryd.pinned (.plain (OpenSpec.upto fnExactTrimRightSpec)) fnExactTrimRightUptoCard

/-- THE SECOND FORM's CARD OF 'laws.FnExactTrim'. -/
def fnExactTrimUptoCard : Claim7 := { stood := { row := fnExactTrimUptoRow, standIns := [], harness := (true, "d52d5bdc321c6044ad19a27c3f7078e0d6865c29f0bb00bfb39c5c54577058e4"), looks := false }, kinds := [], alts := [], laidByText := true, laidKinds := [.data, .pinned], laidTests := true, laidLooks := .later }
def FnExactTrimUptoCardSaid : Prop := Claim7.holds Tryd.pinned (.plain (OpenSpec.upto fnExactTrimSpec)) fnExactTrimUptoCard

/-- THE SECOND FORM's CARD OF 'laws.FnTrimAgain'. -/
def fnTrimAgainUptoCard : Claim7 := { stood := { row := fnTrimAgainUptoRow, standIns := [], harness := (true, "d52d5bdc321c6044ad19a27c3f7078e0d6865c29f0bb00bfb39c5c54577058e4"), looks := false }, kinds := [], alts := [], laidByText := true, laidKinds := [.data, .pinned], laidTests := true, laidLooks := .later }
def FnTrimAgainUptoCardSaid : Prop := Claim7.holds Tryd.pinned (.plain (OpenSpec.upto fnTrimAgainSpec)) fnTrimAgainUptoCard

/-- THE SECOND FORM's CARD OF 'laws.FnTrimSides'. -/
def fnTrimSidesUptoCard : Claim7 := { stood := { row := fnTrimSidesUptoRow, standIns := [], harness := (true, "d52d5bdc321c6044ad19a27c3f7078e0d6865c29f0bb00bfb39c5c54577058e4"), looks := false }, kinds := [], alts := [], laidByText := true, laidKinds := [.data, .pinned], laidTests := true, laidLooks := .later }
def FnTrimSidesUptoCardSaid : Prop := Claim7.holds Tryd.pinned (.plain (OpenSpec.upto fnTrimSidesSpec)) fnTrimSidesUptoCard

/-- THE SECOND FORM's CARD OF 'laws.FnTrimEnds'. -/
def fnTrimEndsUptoCard : Claim7 := { stood := { row := fnTrimEndsUptoRow, standIns := [], harness := (true, "d52d5bdc321c6044ad19a27c3f7078e0d6865c29f0bb00bfb39c5c54577058e4"), looks := false }, kinds := [], alts := [], laidByText := true, laidKinds := [.data, .pinned], laidTests := true, laidLooks := .later }
def FnTrimEndsUptoCardSaid : Prop := Claim7.holds Tryd.pinned (.plain (OpenSpec.upto fnTrimEndsSpec)) fnTrimEndsUptoCard

/-- THE SECOND FORM's CARD OF 'laws.FnTrimDrop'. -/
def fnTrimDropUptoCard : Claim7 := { stood := { row := fnTrimDropUptoRow, standIns := [], harness := (true, "d52d5bdc321c6044ad19a27c3f7078e0d6865c29f0bb00bfb39c5c54577058e4"), looks := false }, kinds := [], alts := [], laidByText := true, laidKinds := [.data, .pinned], laidTests := true, laidLooks := .later }
def FnTrimDropUptoCardSaid : Prop := Claim7.holds Tryd.pinned (.plain (OpenSpec.upto fnTrimDropSpec)) fnTrimDropUptoCard

/-- THE SECOND FORM's CARD OF 'laws.FnTrimTest'. -/
def fnTrimTestUptoCard : Claim7 := { stood := { row := fnTrimTestUptoRow, standIns := [], harness := (true, "d52d5bdc321c6044ad19a27c3f7078e0d6865c29f0bb00bfb39c5c54577058e4"), looks := false }, kinds := [], alts := [], laidByText := true, laidKinds := [.data, .pinned], laidTests := true, laidLooks := .later }
def FnTrimTestUptoCardSaid : Prop := Claim7.holds Tryd.pinned (.plain (OpenSpec.upto fnTrimTestSpec)) fnTrimTestUptoCard

/-- THE SECOND FORM's CARD OF 'laws.FnExactMap'. -/
def fnExactMapUptoCard : Claim7 := { stood := { row := fnExactMapUptoRow, standIns := [], harness := (true, "d52d5bdc321c6044ad19a27c3f7078e0d6865c29f0bb00bfb39c5c54577058e4"), looks := false }, kinds := [], alts := [], laidByText := true, laidKinds := [.data, .pinned], laidTests := true, laidLooks := .later }
def FnExactMapUptoCardSaid : Prop := Claim7.holds Tryd.pinned (.plain (OpenSpec.upto fnExactMapSpec)) fnExactMapUptoCard
end Rows
end Go.Proofs.YtdlobdbclgcogaaDoor
