/- The walk of the law FnEqualFoldIs: it returns true where the texts have at most 2^20 bytes. -/
import Derived.Test.YtiahholgpbjjfaaDoorEqualW
import Derived.Test.YtiahholgpbjjfaaDoorFoldIW
import Derived.Deep.DeepCutAuto
namespace Go.Proofs.YtiahholgpbjjfaaDoor
open Go.RowKit

set_option maxRecDepth 100000 in
set_option maxHeartbeats 4000000 in
theorem FnEqualFoldIs_walk (w : World) (hT : Tabs w) (hC : CaseW w) (a0 : ByteArray) (z0 : a0.size ≤ 1048576) (a1 : ByteArray) (z1 : a1.size ≤ 1048576) :
    Calls Tryd.prog 3 #[.string a0, .string a1] w fun e w' => e = .returned (.bool true) ∧ Below w.heap.size w w' := by
  have hm0 : a0.size ≤ maxLen := by unfold maxLen; omega
  have hm1 : a1.size ≤ maxLen := by unfold maxLen; omega
  have cA := spec_Alike a0 a1 w (by omega) (by omega)
  have key := alike_eq (chunks a0.data.toList) (chunks a1.data.toList)
  have HE := Lib.hid (show eqfB a0.data.toList a1.data.toList = eqC (chunks a0.data.toList) (chunks a1.data.toList) from rfl)
  unfold RetAlike at cA
  obtain ⟨⟨p, q⟩, hpq⟩ : ∃ d, alikeV (chunks a0.data.toList) (chunks a1.data.toList) = d := ⟨_, rfl⟩
  rw [hpq] at cA key
  simp only at cA key
  have HT := Lib.hid hT
  have HC := Lib.hid hC
  clear hpq hT hC
  rcases key with rfl | ⟨rfl, hk⟩
  · go_enter Tryd.func3, Tryd.ntmps3
    go_wp2_with (go_at_call 8; refine cA.mono ?_)
    rintro _ w1 ⟨rfl, x1⟩
    go_wp2_with fail
    go_ret
    exact ⟨rfl, x1.below⟩
  · have HQ := Lib.hid (HE.out.trans hk)
    have hpp : (p == p) = true := by simp
    clear hk HE
    go_enter Tryd.func3, Tryd.ntmps3
    go_wp2_with (go_at_call 8; refine cA.mono ?_)
    rintro _ w1 ⟨rfl, X⟩
    go_wp2_with (refine wpList_toBytes rfl 9 25 _ rfl 5 Tryd.underlying9 Tryd.underlying25 Tryd.underlying5 _ rfl hm0 ?_)
    intro v2 w2 o2 x2
    go_wp2_with (refine wpList_toBytes rfl 9 25 _ rfl 5 Tryd.underlying9 Tryd.underlying25 Tryd.underlying5 _ rfl hm1 ?_)
    intro v3 w3 o3 x3
    replace X := (X.trans x2).trans x3
    have c4 := impl_EqualFold _ _ _ _ _ (o2.bs.ext x3) o3.bs (HT.out.ext X) (HC.out.ext X)
    rw [HQ.out] at c4
    clear x2 x3 o2 o3
    go_wp2_with (go_at_call 9; refine c4.mono ?_)
    rintro _ w4 ⟨rfl, x4⟩
    go_wp2_with fail
    go_ret
    exact ⟨rfl, (X.trans x4).below⟩
end Go.Proofs.YtiahholgpbjjfaaDoor
