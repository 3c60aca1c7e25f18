/-
  DERIVED. GIVEN WITH THE SEED: THE CARDS: each row of YtiahholgpbjjfaaDoorRows.lean that lists a variable, with what it lists TIED to the program's text (the seventh form; the later family's looks); each row that meets fmt, with fmt's text TOLD by the authors' own Lean function (tested against real Go, not proved from fmt's source: count such statements apart). THE CARD IS WHAT COUNTS. Prove the row's statement (the work); the ties are given (YtiahholgpbjjfaaDoorTie.lean); close each card by the builder's one call (the guide's Derived/Test/ToyasCard.lean, 'card_holds'). Laid BY PROGRAM, IN A SANDBOX (cutbox-door.mjs). By AI agents, Wed Nov 11 2026. No macro, syntax, notation, axiom, sorry.
-/
import Derived.Test.YtiahholgpbjjfaaDoorRows
import GoSem.ClaimSeven
namespace Go.Proofs.YtiahholgpbjjfaaDoor
namespace Rows

/-- THE TIED CARD OF 'laws.FnEqualFoldIs'. -/
def fnEqualFoldIsCard : Claim7 := { stood := { row := fnEqualFoldIsRow, standIns := [], harness := (true, "d7d1683e0febc3022b953f1c4da033b597248f12347e47763f7b1cd8dc3188cc"), looks := false }, kinds := [], alts := [], laidByText := true, laidKinds := [.data, .data, .data, .pinned, .pinned], laidTests := true, laidLooks := .later }
def FnEqualFoldIsCardSaid : Prop := Claim7.holds Tryd.pinned (.plain (OpenSpec.ofChange fnEqualFoldIsSpec)) fnEqualFoldIsCard

/-- THE TIED CARD OF 'laws.FnEqualFoldSame'. -/
def fnEqualFoldSameCard : Claim7 := { stood := { row := fnEqualFoldSameRow, standIns := [], harness := (true, "d7d1683e0febc3022b953f1c4da033b597248f12347e47763f7b1cd8dc3188cc"), looks := false }, kinds := [], alts := [], laidByText := true, laidKinds := [.data, .data, .data, .pinned, .pinned], laidTests := true, laidLooks := .later }
def FnEqualFoldSameCardSaid : Prop := Claim7.holds Tryd.pinned (.plain (OpenSpec.ofChange fnEqualFoldSameSpec)) fnEqualFoldSameCard

/-- THE TIED CARD OF 'laws.FnEqualFoldSum'. -/
def fnEqualFoldSumCard : Claim7 := { stood := { row := fnEqualFoldSumRow, standIns := [], harness := (true, "d7d1683e0febc3022b953f1c4da033b597248f12347e47763f7b1cd8dc3188cc"), looks := false }, kinds := [], alts := [], laidByText := true, laidKinds := [.data, .data, .data, .pinned, .pinned], laidTests := true, laidLooks := .later }
def FnEqualFoldSumCardSaid : Prop := Claim7.holds Tryd.pinned (.plain (OpenSpec.ofChange fnEqualFoldSumSpec)) fnEqualFoldSumCard

/-- THE TIED CARD OF 'laws.FnEqualFoldMap'. -/
def fnEqualFoldMapCard : Claim7 := { stood := { row := fnEqualFoldMapRow, standIns := [], harness := (true, "d7d1683e0febc3022b953f1c4da033b597248f12347e47763f7b1cd8dc3188cc"), looks := false }, kinds := [], alts := [], laidByText := true, laidKinds := [.data, .data, .data, .pinned, .pinned], laidTests := true, laidLooks := .later }
def FnEqualFoldMapCardSaid : Prop := Claim7.holds Tryd.pinned (.plain (OpenSpec.ofChange fnEqualFoldMapSpec)) fnEqualFoldMapCard

/-- THE TIED CARD OF 'laws.FnEqualRoads'. -/
def fnEqualRoadsCard : Claim7 := { stood := { row := fnEqualRoadsRow, standIns := [], harness := (true, "d7d1683e0febc3022b953f1c4da033b597248f12347e47763f7b1cd8dc3188cc"), looks := false }, kinds := [], alts := [], laidByText := true, laidKinds := [.data, .data, .data, .pinned, .pinned], laidTests := true, laidLooks := .later }
def FnEqualRoadsCardSaid : Prop := Claim7.holds Tryd.pinned (.plain (OpenSpec.ofChange fnEqualRoadsSpec)) fnEqualRoadsCard

/-- THE SECOND FORM's CARD OF 'laws.FnEqualFoldIs'. -/
def fnEqualFoldIsUptoCard : Claim7 := { stood := { row := fnEqualFoldIsUptoRow, standIns := [], harness := (true, "d7d1683e0febc3022b953f1c4da033b597248f12347e47763f7b1cd8dc3188cc"), looks := false }, kinds := [], alts := [], laidByText := true, laidKinds := [.data, .data, .data, .pinned, .pinned], laidTests := true, laidLooks := .later }
def FnEqualFoldIsUptoCardSaid : Prop := Claim7.holds Tryd.pinned (.plain (OpenSpec.upto fnEqualFoldIsSpec)) fnEqualFoldIsUptoCard

/-- THE SECOND FORM's CARD OF 'laws.FnEqualFoldSame'. -/
def fnEqualFoldSameUptoCard : Claim7 := { stood := { row := fnEqualFoldSameUptoRow, standIns := [], harness := (true, "d7d1683e0febc3022b953f1c4da033b597248f12347e47763f7b1cd8dc3188cc"), looks := false }, kinds := [], alts := [], laidByText := true, laidKinds := [.data, .data, .data, .pinned, .pinned], laidTests := true, laidLooks := .later }
def FnEqualFoldSameUptoCardSaid : Prop := Claim7.holds Tryd.pinned (.plain (OpenSpec.upto fnEqualFoldSameSpec)) fnEqualFoldSameUptoCard

/-- THE SECOND FORM's CARD OF 'laws.FnEqualFoldSum'. -/
def fnEqualFoldSumUptoCard : Claim7 := { stood := { row := fnEqualFoldSumUptoRow, standIns := [], harness := (true, "d7d1683e0febc3022b953f1c4da033b597248f12347e47763f7b1cd8dc3188cc"), looks := false }, kinds := [], alts := [], laidByText := true, laidKinds := [.data, .data, .data, .pinned, .pinned], laidTests := true, laidLooks := .later }
def FnEqualFoldSumUptoCardSaid : Prop := Claim7.holds Tryd.pinned (.plain (OpenSpec.upto fnEqualFoldSumSpec)) fnEqualFoldSumUptoCard

/-- THE SECOND FORM's CARD OF 'laws.FnEqualFoldMap'. -/
def fnEqualFoldMapUptoCard : Claim7 := { stood := { row := fnEqualFoldMapUptoRow, standIns := [], harness := (true, "d7d1683e0febc3022b953f1c4da033b597248f12347e47763f7b1cd8dc3188cc"), looks := false }, kinds := [], alts := [], laidByText := true, laidKinds := [.data, .data, .data, .pinned, .pinned], laidTests := true, laidLooks := .later }
def FnEqualFoldMapUptoCardSaid : Prop := Claim7.holds Tryd.pinned (.plain (OpenSpec.upto fnEqualFoldMapSpec)) fnEqualFoldMapUptoCard

/-- THE SECOND FORM's CARD OF 'laws.FnEqualRoads'. -/
def fnEqualRoadsUptoCard : Claim7 := { stood := { row := fnEqualRoadsUptoRow, standIns := [], harness := (true, "d7d1683e0febc3022b953f1c4da033b597248f12347e47763f7b1cd8dc3188cc"), looks := false }, kinds := [], alts := [], laidByText := true, laidKinds := [.data, .data, .data, .pinned, .pinned], laidTests := true, laidLooks := .later }
def FnEqualRoadsUptoCardSaid : Prop := Claim7.holds Tryd.pinned (.plain (OpenSpec.upto fnEqualRoadsSpec)) fnEqualRoadsUptoCard
end Rows
end Go.Proofs.YtiahholgpbjjfaaDoor
