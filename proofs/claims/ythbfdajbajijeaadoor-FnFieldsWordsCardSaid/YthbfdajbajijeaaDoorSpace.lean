/- unicode.IsSpace by the shelf's contract; the tables of white space. -/
import Derived.Test.YthbfdajbajijeaaDoorBlankP
import Derived.Test.YthbfdajbajijeaaDoorDec
import Derived.Test.YthbfdajbajijeaaDoorLayS
import Derived.Shelf.Unicode.IsSpaceAny
namespace Go.Proofs.YthbfdajbajijeaaDoor
open Go.RowKit

/-- The tables of white space. -/
structure White (w : World) : Prop where
  tab : Lib.WhiteTab 1 w
  asc : ∀ q : Nat, q < 256 → w.cell? ⟨0, q, none⟩ = some (.int .u8 (if Lib.isSp (UInt8.ofNat q) then 1 else 0))
theorem White.ext {w w' : World} (h : White w) (x : Ext w w') : White w' := ⟨WhiteTab_below h.tab x.below, fun q hq => x.cell (h.asc q hq)⟩
/-- The table of ASCII at a byte. -/
theorem White.at {w : World} (h : White w) (x : UInt8) : w.cell? ⟨0, x.toNat, none⟩ = some (.int .u8 (if Lib.isSp x then 1 else 0)) := by
  have := h.asc x.toNat x.toNat_lt
  rwa [UInt8.ofNat_toNat] at this
theorem unicode_IsSpace (r : Nat) (w : World) (h : White w) (hr : r ≤ 1114111) : Calls Tryd.prog 57 #[.int .i32 (r : Int)] w (RetV (.bool (wsP r)) w) :=
  (Any.unicode_IsSpace_any Tryd.lays199 r w (by omega) (by omega) h.tab).mono fun _ _ ⟨he, hb⟩ => ⟨he, ⟨hb⟩⟩
end Go.Proofs.YthbfdajbajijeaaDoor
