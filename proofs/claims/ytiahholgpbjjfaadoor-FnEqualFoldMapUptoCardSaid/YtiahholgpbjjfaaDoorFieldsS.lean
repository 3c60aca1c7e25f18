/- The walks of spec.runs and of what calls it. -/
import Derived.Test.YtiahholgpbjjfaaDoorFieldsP
import Derived.Test.YtiahholgpbjjfaaDoorRunesW
namespace Go.Proofs.YtiahholgpbjjfaaDoor
open Go.RowKit

theorem info_string : (Tryd.prog.info? 9).map (fun i => (i.zero, i.size, i.bytes)) = some (some (.string ByteArray.empty), 1, 16) := by kernel_rfl
theorem ba_part (s : ByteArray) (a b : Nat) (_hab : a ≤ b) : s.extract a b = ⟨(part s.data.toList a b).toArray⟩ := by
  apply ByteArray.ext
  apply Array.ext'
  rw [Lib.extract_data]
  unfold part
  simp only [List.drop_take]

end Go.Proofs.YtiahholgpbjjfaaDoor
