/- impl.Trim for up to 2^48 bytes. -/
import Derived.Test.YtdlobdbclgcogaaDoorCutW
import Derived.Test.YtdlobdbclgcogaaDoorFreshW
namespace Go.Proofs.YtdlobdbclgcogaaDoor
open Go.Shelf Go.RowKit

set_option maxRecDepth 100000 in
theorem impl_TrimV (sv : Value) (l : List UInt8) (s : ByteArray) (w : World) (hb : Bs w sv l) (hT : Tabs w) (hs : s.size ≤ 4611686018427387904) (hl : l.length ≤ 281474976710656) :
    Calls Tryd.prog 29 #[sv, .string s] w (RetOwn w (tB (inP s.data.toList) l)) := by
  have hr := Nat.le_trans (tB_len (inP s.data.toList) l) hl
  go_enter Tryd.func29, Tryd.ntmps29
  go_wp2_with (go_at_call 55; refine (bytes_Trim sv l s _ hb hT hs).mono ?_)
  rintro _ w1 ⟨v1, rfl, b1, x1⟩
  go_wp2_with (go_at_call 44; refine (impl_freshW v1 _ _ b1 hr).mono ?_)
  rintro _ w2 ⟨v2, rfl, o2, x2⟩
  go_wp2_with fail
  go_ret
  exact ⟨_, rfl, o2.mono x1.size (Nat.le_refl _), x1.trans x2⟩
end Go.Proofs.YtdlobdbclgcogaaDoor
