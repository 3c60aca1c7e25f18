/- Contracts of bytes.Compare and of the thin package's Compare: the byte-wise comparison of two lists of bytes. No condition beyond what the slices hold. -/
import Derived.Test.YtlklmolcficdaaaBase
import Derived.Test.YtlklmolcficdaaaPlain
import Derived.Test.YtlklmolcficdaaaRows
namespace Go.Proofs.Ytlklmolcficdaaa
open Go.RowKit

theorem bytes_Compare (v1 v2 : Value) (l1 l2 : List UInt8) (w : World) (h1 : Bs w v1 l1) (h2 : Bs w v2 l2) :
    Calls Try.prog 42 #[v1, v2] w fun e w' => e = .returned (.int .i64 (cmpL l1 l2)) ∧ w = w' := by
  have hrun : (Extern.BytealgCompare.compare #[v1, v2]).run Try.prog w = .ok (.int .i64 (cmpL l1 l2)) w := by
    show Sem.run Try.prog (do pure (goInt (Extern.BytealgCompare.cmp (← Extern.Bytes.bytesOf v1) (← Extern.Bytes.bytesOf v2)))) w = _
    simp [run_bytesOf h1, run_bytesOf h2, Result.andThen, cmp_eq, goInt]
  go_enter Try.func42, Try.ntmps42
  go_wp2_with (refine wpList_extern2 rfl 61 _ _ _ rfl Try.func61 (by kernel_rfl) (by kernel_rfl) (by kernel_rfl) (e := Extern.BytealgCompare.compare) (by kernel_rfl) v1 v2 rfl rfl _ _ hrun ?_)
  go_ret
  exact ⟨rfl, rfl⟩

theorem impl_Compare (v1 v2 : Value) (l1 l2 : List UInt8) (w : World) (h1 : Bs w v1 l1) (h2 : Bs w v2 l2) :
    Calls Try.prog 17 #[v1, v2] w fun e w' => e = .returned (.int .i64 (cmpL l1 l2)) ∧ w = w' := by
  go_enter Try.func17, Try.ntmps17
  go_wp2_with (go_at_call 42; refine (bytes_Compare _ _ _ _ _ h1 h2).mono ?_; rintro e w' ⟨rfl, rfl⟩)
  go_ret
  exact ⟨rfl, rfl⟩

end Go.Proofs.Ytlklmolcficdaaa
