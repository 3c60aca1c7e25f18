/- Contracts of bytes.Compare and of the thin package's Compare: the byte-wise comparison of two lists of bytes. No condition beyond what the slices hold. -/
import Derived.Test.YtiahholgpbjjfaaDoorBase
import Derived.Test.YtiahholgpbjjfaaDoorPlain
import Derived.Test.YtiahholgpbjjfaaDoorRows
namespace Go.Proofs.YtiahholgpbjjfaaDoor
open Go.RowKit

theorem bytes_Compare (v1 v2 : Value) (l1 l2 : List UInt8) (w : World) (h1 : Bs w v1 l1) (h2 : Bs w v2 l2) :
    Calls Tryd.prog 24 #[v1, v2] w fun e w' => e = .returned (.int .i64 (cmpL l1 l2)) ∧ w = w' := by
  have hrun : (Extern.BytealgCompare.compare #[v1, v2]).run Tryd.prog w = .ok (.int .i64 (cmpL l1 l2)) w := by
    show Sem.run Tryd.prog (do pure (goInt (Extern.BytealgCompare.cmp (← Extern.Bytes.bytesOf v1) (← Extern.Bytes.bytesOf v2)))) w = _
    simp [run_bytesOf h1, run_bytesOf h2, Result.andThen, cmp_eq, goInt]
  go_enter Tryd.func24, Tryd.ntmps24
  go_wp2_with (refine wpList_extern2 rfl 30 _ _ _ rfl Tryd.func30 (by kernel_rfl) (by kernel_rfl) (by kernel_rfl) (e := Extern.BytealgCompare.compare) (by kernel_rfl) v1 v2 rfl rfl _ _ hrun ?_)
  go_ret
  exact ⟨rfl, rfl⟩

theorem impl_Compare (v1 v2 : Value) (l1 l2 : List UInt8) (w : World) (h1 : Bs w v1 l1) (h2 : Bs w v2 l2) :
    Calls Tryd.prog 15 #[v1, v2] w fun e w' => e = .returned (.int .i64 (cmpL l1 l2)) ∧ w = w' := by
  go_enter Tryd.func15, Tryd.ntmps15
  go_wp2_with (go_at_call 24; refine (bytes_Compare _ _ _ _ _ h1 h2).mono ?_; rintro e w' ⟨rfl, rfl⟩)
  go_ret
  exact ⟨rfl, rfl⟩

end Go.Proofs.YtiahholgpbjjfaaDoor
