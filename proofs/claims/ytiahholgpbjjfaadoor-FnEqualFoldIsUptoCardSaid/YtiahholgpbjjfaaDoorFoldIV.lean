/- The reference model's simple case folding: spec.Fold. Printed by foldiw.py. -/
import Derived.Test.YtiahholgpbjjfaaDoorFoldI
import Derived.Test.YtiahholgpbjjfaaDoorSpecR
import Derived.Test.YtiahholgpbjjfaaDoorPointsW
import Derived.BigQuiet
import Derived.Deep.DeepCutAuto
namespace Go.Proofs.YtiahholgpbjjfaaDoor
open Go.RowKit

/-- The answer of Fold. -/
def foldV (o : Option Nat) : Value := match o with | some f => .tuple #[.int .i32 (f : Int), .bool true] | none => .tuple #[.int .i32 0, .bool false]

set_option maxRecDepth 100000 in
set_option maxHeartbeats 4000000 in
theorem spec_Fold (r : Nat) (hr : r ≤ 1114111) (w : World) : Calls Tryd.prog 31 #[.int .i32 (r : Int)] w (RetV (foldV (specF r)) w) := by
  have q0 : ¬ (r : Int) < 0 := by omega
  have hc : (0 ≤ r ∧ r ≤ 64) ∨ (65 ≤ r ∧ r ≤ 90) ∨ (91 ≤ r ∧ r ≤ 180) ∨ (181 ≤ r ∧ r ≤ 181) ∨ (182 ≤ r ∧ r ≤ 191) ∨ (192 ≤ r ∧ r ≤ 214) ∨ (215 ≤ r ∧ r ≤ 215) ∨ (216 ≤ r ∧ r ≤ 222) ∨ (223 ≤ r ∧ r ≤ 255) ∨ (256 ≤ r ∧ r ≤ 912) ∨ (913 ≤ r ∧ r ≤ 929) ∨ (930 ≤ r ∧ r ≤ 930) ∨ (931 ≤ r ∧ r ≤ 937) ∨ (938 ≤ r ∧ r ≤ 944) ∨ (945 ≤ r ∧ r ≤ 961) ∨ (962 ≤ r ∧ r ≤ 962) ∨ (963 ≤ r ∧ r ≤ 969) ∨ (970 ≤ r ∧ r ≤ 1023) ∨ (1024 ≤ r ∧ r ≤ 1039) ∨ (1040 ≤ r ∧ r ≤ 1071) ∨ (1072 ≤ r ∧ r ≤ 1119) ∨ 1120 ≤ r := by omega
  rcases hc with h | h | h | h | h | h | h | h | h | h | h | h | h | h | h | h | h | h | h | h | h | h
  · have HS := Lib.hid (show specF r = some r by unfold specF; (repeat' split) <;> first | rfl | (exfalso; omega))
    have g65 : ¬ (65 : Int) ≤ (r : Int) := by omega
    have g192 : ¬ (192 : Int) ≤ (r : Int) := by omega
    have g913 : ¬ (913 : Int) ≤ (r : Int) := by omega
    have g945 : ¬ (945 : Int) ≤ (r : Int) := by omega
    have g1024 : ¬ (1024 : Int) ≤ (r : Int) := by omega
    have g1040 : ¬ (1040 : Int) ≤ (r : Int) := by omega
    have g1072 : ¬ (1072 : Int) ≤ (r : Int) := by omega
    have l90 : (r : Int) ≤ 90 := by omega
    have l222 : (r : Int) ≤ 222 := by omega
    have l255 : (r : Int) ≤ 255 := by omega
    have l937 : (r : Int) ≤ 937 := by omega
    have l969 : (r : Int) ≤ 969 := by omega
    have l1039 : (r : Int) ≤ 1039 := by omega
    have l1071 : (r : Int) ≤ 1071 := by omega
    have l1119 : (r : Int) ≤ 1119 := by omega
    have e181 : ((r : Int) == 181) = false := by rw [beq_eq_false_iff_ne]; omega
    have e930 : ((r : Int) == 930) = false := by rw [beq_eq_false_iff_ne]; omega
    have e962 : ((r : Int) == 962) = false := by rw [beq_eq_false_iff_ne]; omega
    have n215 : ((r : Int) != 215) = true := by rw [bne_iff_ne]; omega
    clear h
    go_enter Tryd.func31, Tryd.ntmps31
    go_wp2_with fail
    go_ret2
    exact ⟨by rw [HS.out]; first | rfl | (unfold foldV; simp), Ext.refl _⟩
  · have HS := Lib.hid (show specF r = some (r + 32) by unfold specF; (repeat' split) <;> first | rfl | (exfalso; omega))
    have g65 : (65 : Int) ≤ (r : Int) := by omega
    have g192 : ¬ (192 : Int) ≤ (r : Int) := by omega
    have g913 : ¬ (913 : Int) ≤ (r : Int) := by omega
    have g945 : ¬ (945 : Int) ≤ (r : Int) := by omega
    have g1024 : ¬ (1024 : Int) ≤ (r : Int) := by omega
    have g1040 : ¬ (1040 : Int) ≤ (r : Int) := by omega
    have g1072 : ¬ (1072 : Int) ≤ (r : Int) := by omega
    have l90 : (r : Int) ≤ 90 := by omega
    have l222 : (r : Int) ≤ 222 := by omega
    have l255 : (r : Int) ≤ 255 := by omega
    have l937 : (r : Int) ≤ 937 := by omega
    have l969 : (r : Int) ≤ 969 := by omega
    have l1039 : (r : Int) ≤ 1039 := by omega
    have l1071 : (r : Int) ≤ 1071 := by omega
    have l1119 : (r : Int) ≤ 1119 := by omega
    have e181 : ((r : Int) == 181) = false := by rw [beq_eq_false_iff_ne]; omega
    have e930 : ((r : Int) == 930) = false := by rw [beq_eq_false_iff_ne]; omega
    have e962 : ((r : Int) == 962) = false := by rw [beq_eq_false_iff_ne]; omega
    have n215 : ((r : Int) != 215) = true := by rw [bne_iff_ne]; omega
    clear h
    go_enter Tryd.func31, Tryd.ntmps31
    go_wp2_with fail
    go_ret2
    exact ⟨by rw [HS.out]; first | rfl | (unfold foldV; simp), Ext.refl _⟩
  · have HS := Lib.hid (show specF r = some r by unfold specF; (repeat' split) <;> first | rfl | (exfalso; omega))
    have g65 : (65 : Int) ≤ (r : Int) := by omega
    have g192 : ¬ (192 : Int) ≤ (r : Int) := by omega
    have g913 : ¬ (913 : Int) ≤ (r : Int) := by omega
    have g945 : ¬ (945 : Int) ≤ (r : Int) := by omega
    have g1024 : ¬ (1024 : Int) ≤ (r : Int) := by omega
    have g1040 : ¬ (1040 : Int) ≤ (r : Int) := by omega
    have g1072 : ¬ (1072 : Int) ≤ (r : Int) := by omega
    have l90 : ¬ (r : Int) ≤ 90 := by omega
    have l222 : (r : Int) ≤ 222 := by omega
    have l255 : (r : Int) ≤ 255 := by omega
    have l937 : (r : Int) ≤ 937 := by omega
    have l969 : (r : Int) ≤ 969 := by omega
    have l1039 : (r : Int) ≤ 1039 := by omega
    have l1071 : (r : Int) ≤ 1071 := by omega
    have l1119 : (r : Int) ≤ 1119 := by omega
    have e181 : ((r : Int) == 181) = false := by rw [beq_eq_false_iff_ne]; omega
    have e930 : ((r : Int) == 930) = false := by rw [beq_eq_false_iff_ne]; omega
    have e962 : ((r : Int) == 962) = false := by rw [beq_eq_false_iff_ne]; omega
    have n215 : ((r : Int) != 215) = true := by rw [bne_iff_ne]; omega
    clear h
    go_enter Tryd.func31, Tryd.ntmps31
    go_wp2_with fail
    go_ret2
    exact ⟨by rw [HS.out]; first | rfl | (unfold foldV; simp), Ext.refl _⟩
  · have HS := Lib.hid (show specF r = some 956 by unfold specF; (repeat' split) <;> first | rfl | (exfalso; omega))
    have g65 : (65 : Int) ≤ (r : Int) := by omega
    have g192 : ¬ (192 : Int) ≤ (r : Int) := by omega
    have g913 : ¬ (913 : Int) ≤ (r : Int) := by omega
    have g945 : ¬ (945 : Int) ≤ (r : Int) := by omega
    have g1024 : ¬ (1024 : Int) ≤ (r : Int) := by omega
    have g1040 : ¬ (1040 : Int) ≤ (r : Int) := by omega
    have g1072 : ¬ (1072 : Int) ≤ (r : Int) := by omega
    have l90 : ¬ (r : Int) ≤ 90 := by omega
    have l222 : (r : Int) ≤ 222 := by omega
    have l255 : (r : Int) ≤ 255 := by omega
    have l937 : (r : Int) ≤ 937 := by omega
    have l969 : (r : Int) ≤ 969 := by omega
    have l1039 : (r : Int) ≤ 1039 := by omega
    have l1071 : (r : Int) ≤ 1071 := by omega
    have l1119 : (r : Int) ≤ 1119 := by omega
    have e181 : ((r : Int) == 181) = true := by rw [beq_iff_eq]; omega
    have e930 : ((r : Int) == 930) = false := by rw [beq_eq_false_iff_ne]; omega
    have e962 : ((r : Int) == 962) = false := by rw [beq_eq_false_iff_ne]; omega
    have n215 : ((r : Int) != 215) = true := by rw [bne_iff_ne]; omega
    clear h
    go_enter Tryd.func31, Tryd.ntmps31
    go_wp2_with fail
    go_ret2
    exact ⟨by rw [HS.out]; first | rfl | (unfold foldV; simp), Ext.refl _⟩
  · have HS := Lib.hid (show specF r = some r by unfold specF; (repeat' split) <;> first | rfl | (exfalso; omega))
    have g65 : (65 : Int) ≤ (r : Int) := by omega
    have g192 : ¬ (192 : Int) ≤ (r : Int) := by omega
    have g913 : ¬ (913 : Int) ≤ (r : Int) := by omega
    have g945 : ¬ (945 : Int) ≤ (r : Int) := by omega
    have g1024 : ¬ (1024 : Int) ≤ (r : Int) := by omega
    have g1040 : ¬ (1040 : Int) ≤ (r : Int) := by omega
    have g1072 : ¬ (1072 : Int) ≤ (r : Int) := by omega
    have l90 : ¬ (r : Int) ≤ 90 := by omega
    have l222 : (r : Int) ≤ 222 := by omega
    have l255 : (r : Int) ≤ 255 := by omega
    have l937 : (r : Int) ≤ 937 := by omega
    have l969 : (r : Int) ≤ 969 := by omega
    have l1039 : (r : Int) ≤ 1039 := by omega
    have l1071 : (r : Int) ≤ 1071 := by omega
    have l1119 : (r : Int) ≤ 1119 := by omega
    have e181 : ((r : Int) == 181) = false := by rw [beq_eq_false_iff_ne]; omega
    have e930 : ((r : Int) == 930) = false := by rw [beq_eq_false_iff_ne]; omega
    have e962 : ((r : Int) == 962) = false := by rw [beq_eq_false_iff_ne]; omega
    have n215 : ((r : Int) != 215) = true := by rw [bne_iff_ne]; omega
    clear h
    go_enter Tryd.func31, Tryd.ntmps31
    go_wp2_with fail
    go_ret2
    exact ⟨by rw [HS.out]; first | rfl | (unfold foldV; simp), Ext.refl _⟩
  · have HS := Lib.hid (show specF r = some (r + 32) by unfold specF; (repeat' split) <;> first | rfl | (exfalso; omega))
    have g65 : (65 : Int) ≤ (r : Int) := by omega
    have g192 : (192 : Int) ≤ (r : Int) := by omega
    have g913 : ¬ (913 : Int) ≤ (r : Int) := by omega
    have g945 : ¬ (945 : Int) ≤ (r : Int) := by omega
    have g1024 : ¬ (1024 : Int) ≤ (r : Int) := by omega
    have g1040 : ¬ (1040 : Int) ≤ (r : Int) := by omega
    have g1072 : ¬ (1072 : Int) ≤ (r : Int) := by omega
    have l90 : ¬ (r : Int) ≤ 90 := by omega
    have l222 : (r : Int) ≤ 222 := by omega
    have l255 : (r : Int) ≤ 255 := by omega
    have l937 : (r : Int) ≤ 937 := by omega
    have l969 : (r : Int) ≤ 969 := by omega
    have l1039 : (r : Int) ≤ 1039 := by omega
    have l1071 : (r : Int) ≤ 1071 := by omega
    have l1119 : (r : Int) ≤ 1119 := by omega
    have e181 : ((r : Int) == 181) = false := by rw [beq_eq_false_iff_ne]; omega
    have e930 : ((r : Int) == 930) = false := by rw [beq_eq_false_iff_ne]; omega
    have e962 : ((r : Int) == 962) = false := by rw [beq_eq_false_iff_ne]; omega
    have n215 : ((r : Int) != 215) = true := by rw [bne_iff_ne]; omega
    clear h
    go_enter Tryd.func31, Tryd.ntmps31
    go_wp2_with fail
    go_ret2
    exact ⟨by rw [HS.out]; first | rfl | (unfold foldV; simp), Ext.refl _⟩
  · have HS := Lib.hid (show specF r = some r by unfold specF; (repeat' split) <;> first | rfl | (exfalso; omega))
    have g65 : (65 : Int) ≤ (r : Int) := by omega
    have g192 : (192 : Int) ≤ (r : Int) := by omega
    have g913 : ¬ (913 : Int) ≤ (r : Int) := by omega
    have g945 : ¬ (945 : Int) ≤ (r : Int) := by omega
    have g1024 : ¬ (1024 : Int) ≤ (r : Int) := by omega
    have g1040 : ¬ (1040 : Int) ≤ (r : Int) := by omega
    have g1072 : ¬ (1072 : Int) ≤ (r : Int) := by omega
    have l90 : ¬ (r : Int) ≤ 90 := by omega
    have l222 : (r : Int) ≤ 222 := by omega
    have l255 : (r : Int) ≤ 255 := by omega
    have l937 : (r : Int) ≤ 937 := by omega
    have l969 : (r : Int) ≤ 969 := by omega
    have l1039 : (r : Int) ≤ 1039 := by omega
    have l1071 : (r : Int) ≤ 1071 := by omega
    have l1119 : (r : Int) ≤ 1119 := by omega
    have e181 : ((r : Int) == 181) = false := by rw [beq_eq_false_iff_ne]; omega
    have e930 : ((r : Int) == 930) = false := by rw [beq_eq_false_iff_ne]; omega
    have e962 : ((r : Int) == 962) = false := by rw [beq_eq_false_iff_ne]; omega
    have n215 : ((r : Int) != 215) = false := by rw [bne_eq_false_iff_eq]; omega
    clear h
    go_enter Tryd.func31, Tryd.ntmps31
    go_wp2_with fail
    go_ret2
    exact ⟨by rw [HS.out]; first | rfl | (unfold foldV; simp), Ext.refl _⟩
  · have HS := Lib.hid (show specF r = some (r + 32) by unfold specF; (repeat' split) <;> first | rfl | (exfalso; omega))
    have g65 : (65 : Int) ≤ (r : Int) := by omega
    have g192 : (192 : Int) ≤ (r : Int) := by omega
    have g913 : ¬ (913 : Int) ≤ (r : Int) := by omega
    have g945 : ¬ (945 : Int) ≤ (r : Int) := by omega
    have g1024 : ¬ (1024 : Int) ≤ (r : Int) := by omega
    have g1040 : ¬ (1040 : Int) ≤ (r : Int) := by omega
    have g1072 : ¬ (1072 : Int) ≤ (r : Int) := by omega
    have l90 : ¬ (r : Int) ≤ 90 := by omega
    have l222 : (r : Int) ≤ 222 := by omega
    have l255 : (r : Int) ≤ 255 := by omega
    have l937 : (r : Int) ≤ 937 := by omega
    have l969 : (r : Int) ≤ 969 := by omega
    have l1039 : (r : Int) ≤ 1039 := by omega
    have l1071 : (r : Int) ≤ 1071 := by omega
    have l1119 : (r : Int) ≤ 1119 := by omega
    have e181 : ((r : Int) == 181) = false := by rw [beq_eq_false_iff_ne]; omega
    have e930 : ((r : Int) == 930) = false := by rw [beq_eq_false_iff_ne]; omega
    have e962 : ((r : Int) == 962) = false := by rw [beq_eq_false_iff_ne]; omega
    have n215 : ((r : Int) != 215) = true := by rw [bne_iff_ne]; omega
    clear h
    go_enter Tryd.func31, Tryd.ntmps31
    go_wp2_with fail
    go_ret2
    exact ⟨by rw [HS.out]; first | rfl | (unfold foldV; simp), Ext.refl _⟩
  · have HS := Lib.hid (show specF r = some r by unfold specF; (repeat' split) <;> first | rfl | (exfalso; omega))
    have g65 : (65 : Int) ≤ (r : Int) := by omega
    have g192 : (192 : Int) ≤ (r : Int) := by omega
    have g913 : ¬ (913 : Int) ≤ (r : Int) := by omega
    have g945 : ¬ (945 : Int) ≤ (r : Int) := by omega
    have g1024 : ¬ (1024 : Int) ≤ (r : Int) := by omega
    have g1040 : ¬ (1040 : Int) ≤ (r : Int) := by omega
    have g1072 : ¬ (1072 : Int) ≤ (r : Int) := by omega
    have l90 : ¬ (r : Int) ≤ 90 := by omega
    have l222 : ¬ (r : Int) ≤ 222 := by omega
    have l255 : (r : Int) ≤ 255 := by omega
    have l937 : (r : Int) ≤ 937 := by omega
    have l969 : (r : Int) ≤ 969 := by omega
    have l1039 : (r : Int) ≤ 1039 := by omega
    have l1071 : (r : Int) ≤ 1071 := by omega
    have l1119 : (r : Int) ≤ 1119 := by omega
    have e181 : ((r : Int) == 181) = false := by rw [beq_eq_false_iff_ne]; omega
    have e930 : ((r : Int) == 930) = false := by rw [beq_eq_false_iff_ne]; omega
    have e962 : ((r : Int) == 962) = false := by rw [beq_eq_false_iff_ne]; omega
    have n215 : ((r : Int) != 215) = true := by rw [bne_iff_ne]; omega
    clear h
    go_enter Tryd.func31, Tryd.ntmps31
    go_wp2_with fail
    go_ret2
    exact ⟨by rw [HS.out]; first | rfl | (unfold foldV; simp), Ext.refl _⟩
  · have HS := Lib.hid (show specF r = none by unfold specF; (repeat' split) <;> first | rfl | (exfalso; omega))
    have g65 : (65 : Int) ≤ (r : Int) := by omega
    have g192 : (192 : Int) ≤ (r : Int) := by omega
    have g913 : ¬ (913 : Int) ≤ (r : Int) := by omega
    have g945 : ¬ (945 : Int) ≤ (r : Int) := by omega
    have g1024 : ¬ (1024 : Int) ≤ (r : Int) := by omega
    have g1040 : ¬ (1040 : Int) ≤ (r : Int) := by omega
    have g1072 : ¬ (1072 : Int) ≤ (r : Int) := by omega
    have l90 : ¬ (r : Int) ≤ 90 := by omega
    have l222 : ¬ (r : Int) ≤ 222 := by omega
    have l255 : ¬ (r : Int) ≤ 255 := by omega
    have l937 : (r : Int) ≤ 937 := by omega
    have l969 : (r : Int) ≤ 969 := by omega
    have l1039 : (r : Int) ≤ 1039 := by omega
    have l1071 : (r : Int) ≤ 1071 := by omega
    have l1119 : (r : Int) ≤ 1119 := by omega
    have e181 : ((r : Int) == 181) = false := by rw [beq_eq_false_iff_ne]; omega
    have e930 : ((r : Int) == 930) = false := by rw [beq_eq_false_iff_ne]; omega
    have e962 : ((r : Int) == 962) = false := by rw [beq_eq_false_iff_ne]; omega
    have n215 : ((r : Int) != 215) = true := by rw [bne_iff_ne]; omega
    clear h
    go_enter Tryd.func31, Tryd.ntmps31
    go_wp2_with fail
    go_ret2
    exact ⟨by rw [HS.out]; first | rfl | (unfold foldV; simp), Ext.refl _⟩
  · have HS := Lib.hid (show specF r = some (r + 32) by unfold specF; (repeat' split) <;> first | rfl | (exfalso; omega))
    have g65 : (65 : Int) ≤ (r : Int) := by omega
    have g192 : (192 : Int) ≤ (r : Int) := by omega
    have g913 : (913 : Int) ≤ (r : Int) := by omega
    have g945 : ¬ (945 : Int) ≤ (r : Int) := by omega
    have g1024 : ¬ (1024 : Int) ≤ (r : Int) := by omega
    have g1040 : ¬ (1040 : Int) ≤ (r : Int) := by omega
    have g1072 : ¬ (1072 : Int) ≤ (r : Int) := by omega
    have l90 : ¬ (r : Int) ≤ 90 := by omega
    have l222 : ¬ (r : Int) ≤ 222 := by omega
    have l255 : ¬ (r : Int) ≤ 255 := by omega
    have l937 : (r : Int) ≤ 937 := by omega
    have l969 : (r : Int) ≤ 969 := by omega
    have l1039 : (r : Int) ≤ 1039 := by omega
    have l1071 : (r : Int) ≤ 1071 := by omega
    have l1119 : (r : Int) ≤ 1119 := by omega
    have e181 : ((r : Int) == 181) = false := by rw [beq_eq_false_iff_ne]; omega
    have e930 : ((r : Int) == 930) = false := by rw [beq_eq_false_iff_ne]; omega
    have e962 : ((r : Int) == 962) = false := by rw [beq_eq_false_iff_ne]; omega
    have n215 : ((r : Int) != 215) = true := by rw [bne_iff_ne]; omega
    clear h
    go_enter Tryd.func31, Tryd.ntmps31
    go_wp2_with fail
    go_ret2
    exact ⟨by rw [HS.out]; first | rfl | (unfold foldV; simp), Ext.refl _⟩
  · have HS := Lib.hid (show specF r = none by unfold specF; (repeat' split) <;> first | rfl | (exfalso; omega))
    have g65 : (65 : Int) ≤ (r : Int) := by omega
    have g192 : (192 : Int) ≤ (r : Int) := by omega
    have g913 : (913 : Int) ≤ (r : Int) := by omega
    have g945 : ¬ (945 : Int) ≤ (r : Int) := by omega
    have g1024 : ¬ (1024 : Int) ≤ (r : Int) := by omega
    have g1040 : ¬ (1040 : Int) ≤ (r : Int) := by omega
    have g1072 : ¬ (1072 : Int) ≤ (r : Int) := by omega
    have l90 : ¬ (r : Int) ≤ 90 := by omega
    have l222 : ¬ (r : Int) ≤ 222 := by omega
    have l255 : ¬ (r : Int) ≤ 255 := by omega
    have l937 : (r : Int) ≤ 937 := by omega
    have l969 : (r : Int) ≤ 969 := by omega
    have l1039 : (r : Int) ≤ 1039 := by omega
    have l1071 : (r : Int) ≤ 1071 := by omega
    have l1119 : (r : Int) ≤ 1119 := by omega
    have e181 : ((r : Int) == 181) = false := by rw [beq_eq_false_iff_ne]; omega
    have e930 : ((r : Int) == 930) = true := by rw [beq_iff_eq]; omega
    have e962 : ((r : Int) == 962) = false := by rw [beq_eq_false_iff_ne]; omega
    have n215 : ((r : Int) != 215) = true := by rw [bne_iff_ne]; omega
    clear h
    go_enter Tryd.func31, Tryd.ntmps31
    go_wp2_with fail
    go_ret2
    exact ⟨by rw [HS.out]; first | rfl | (unfold foldV; simp), Ext.refl _⟩
  · have HS := Lib.hid (show specF r = some (r + 32) by unfold specF; (repeat' split) <;> first | rfl | (exfalso; omega))
    have g65 : (65 : Int) ≤ (r : Int) := by omega
    have g192 : (192 : Int) ≤ (r : Int) := by omega
    have g913 : (913 : Int) ≤ (r : Int) := by omega
    have g945 : ¬ (945 : Int) ≤ (r : Int) := by omega
    have g1024 : ¬ (1024 : Int) ≤ (r : Int) := by omega
    have g1040 : ¬ (1040 : Int) ≤ (r : Int) := by omega
    have g1072 : ¬ (1072 : Int) ≤ (r : Int) := by omega
    have l90 : ¬ (r : Int) ≤ 90 := by omega
    have l222 : ¬ (r : Int) ≤ 222 := by omega
    have l255 : ¬ (r : Int) ≤ 255 := by omega
    have l937 : (r : Int) ≤ 937 := by omega
    have l969 : (r : Int) ≤ 969 := by omega
    have l1039 : (r : Int) ≤ 1039 := by omega
    have l1071 : (r : Int) ≤ 1071 := by omega
    have l1119 : (r : Int) ≤ 1119 := by omega
    have e181 : ((r : Int) == 181) = false := by rw [beq_eq_false_iff_ne]; omega
    have e930 : ((r : Int) == 930) = false := by rw [beq_eq_false_iff_ne]; omega
    have e962 : ((r : Int) == 962) = false := by rw [beq_eq_false_iff_ne]; omega
    have n215 : ((r : Int) != 215) = true := by rw [bne_iff_ne]; omega
    clear h
    go_enter Tryd.func31, Tryd.ntmps31
    go_wp2_with fail
    go_ret2
    exact ⟨by rw [HS.out]; first | rfl | (unfold foldV; simp), Ext.refl _⟩
  · have HS := Lib.hid (show specF r = none by unfold specF; (repeat' split) <;> first | rfl | (exfalso; omega))
    have g65 : (65 : Int) ≤ (r : Int) := by omega
    have g192 : (192 : Int) ≤ (r : Int) := by omega
    have g913 : (913 : Int) ≤ (r : Int) := by omega
    have g945 : ¬ (945 : Int) ≤ (r : Int) := by omega
    have g1024 : ¬ (1024 : Int) ≤ (r : Int) := by omega
    have g1040 : ¬ (1040 : Int) ≤ (r : Int) := by omega
    have g1072 : ¬ (1072 : Int) ≤ (r : Int) := by omega
    have l90 : ¬ (r : Int) ≤ 90 := by omega
    have l222 : ¬ (r : Int) ≤ 222 := by omega
    have l255 : ¬ (r : Int) ≤ 255 := by omega
    have l937 : ¬ (r : Int) ≤ 937 := by omega
    have l969 : (r : Int) ≤ 969 := by omega
    have l1039 : (r : Int) ≤ 1039 := by omega
    have l1071 : (r : Int) ≤ 1071 := by omega
    have l1119 : (r : Int) ≤ 1119 := by omega
    have e181 : ((r : Int) == 181) = false := by rw [beq_eq_false_iff_ne]; omega
    have e930 : ((r : Int) == 930) = false := by rw [beq_eq_false_iff_ne]; omega
    have e962 : ((r : Int) == 962) = false := by rw [beq_eq_false_iff_ne]; omega
    have n215 : ((r : Int) != 215) = true := by rw [bne_iff_ne]; omega
    clear h
    go_enter Tryd.func31, Tryd.ntmps31
    go_wp2_with fail
    go_ret2
    exact ⟨by rw [HS.out]; first | rfl | (unfold foldV; simp), Ext.refl _⟩
  · have HS := Lib.hid (show specF r = some r by unfold specF; (repeat' split) <;> first | rfl | (exfalso; omega))
    have g65 : (65 : Int) ≤ (r : Int) := by omega
    have g192 : (192 : Int) ≤ (r : Int) := by omega
    have g913 : (913 : Int) ≤ (r : Int) := by omega
    have g945 : (945 : Int) ≤ (r : Int) := by omega
    have g1024 : ¬ (1024 : Int) ≤ (r : Int) := by omega
    have g1040 : ¬ (1040 : Int) ≤ (r : Int) := by omega
    have g1072 : ¬ (1072 : Int) ≤ (r : Int) := by omega
    have l90 : ¬ (r : Int) ≤ 90 := by omega
    have l222 : ¬ (r : Int) ≤ 222 := by omega
    have l255 : ¬ (r : Int) ≤ 255 := by omega
    have l937 : ¬ (r : Int) ≤ 937 := by omega
    have l969 : (r : Int) ≤ 969 := by omega
    have l1039 : (r : Int) ≤ 1039 := by omega
    have l1071 : (r : Int) ≤ 1071 := by omega
    have l1119 : (r : Int) ≤ 1119 := by omega
    have e181 : ((r : Int) == 181) = false := by rw [beq_eq_false_iff_ne]; omega
    have e930 : ((r : Int) == 930) = false := by rw [beq_eq_false_iff_ne]; omega
    have e962 : ((r : Int) == 962) = false := by rw [beq_eq_false_iff_ne]; omega
    have n215 : ((r : Int) != 215) = true := by rw [bne_iff_ne]; omega
    clear h
    go_enter Tryd.func31, Tryd.ntmps31
    go_wp2_with fail
    go_ret2
    exact ⟨by rw [HS.out]; first | rfl | (unfold foldV; simp), Ext.refl _⟩
  · have HS := Lib.hid (show specF r = some 963 by unfold specF; (repeat' split) <;> first | rfl | (exfalso; omega))
    have g65 : (65 : Int) ≤ (r : Int) := by omega
    have g192 : (192 : Int) ≤ (r : Int) := by omega
    have g913 : (913 : Int) ≤ (r : Int) := by omega
    have g945 : (945 : Int) ≤ (r : Int) := by omega
    have g1024 : ¬ (1024 : Int) ≤ (r : Int) := by omega
    have g1040 : ¬ (1040 : Int) ≤ (r : Int) := by omega
    have g1072 : ¬ (1072 : Int) ≤ (r : Int) := by omega
    have l90 : ¬ (r : Int) ≤ 90 := by omega
    have l222 : ¬ (r : Int) ≤ 222 := by omega
    have l255 : ¬ (r : Int) ≤ 255 := by omega
    have l937 : ¬ (r : Int) ≤ 937 := by omega
    have l969 : (r : Int) ≤ 969 := by omega
    have l1039 : (r : Int) ≤ 1039 := by omega
    have l1071 : (r : Int) ≤ 1071 := by omega
    have l1119 : (r : Int) ≤ 1119 := by omega
    have e181 : ((r : Int) == 181) = false := by rw [beq_eq_false_iff_ne]; omega
    have e930 : ((r : Int) == 930) = false := by rw [beq_eq_false_iff_ne]; omega
    have e962 : ((r : Int) == 962) = true := by rw [beq_iff_eq]; omega
    have n215 : ((r : Int) != 215) = true := by rw [bne_iff_ne]; omega
    clear h
    go_enter Tryd.func31, Tryd.ntmps31
    go_wp2_with fail
    go_ret2
    exact ⟨by rw [HS.out]; first | rfl | (unfold foldV; simp), Ext.refl _⟩
  · have HS := Lib.hid (show specF r = some r by unfold specF; (repeat' split) <;> first | rfl | (exfalso; omega))
    have g65 : (65 : Int) ≤ (r : Int) := by omega
    have g192 : (192 : Int) ≤ (r : Int) := by omega
    have g913 : (913 : Int) ≤ (r : Int) := by omega
    have g945 : (945 : Int) ≤ (r : Int) := by omega
    have g1024 : ¬ (1024 : Int) ≤ (r : Int) := by omega
    have g1040 : ¬ (1040 : Int) ≤ (r : Int) := by omega
    have g1072 : ¬ (1072 : Int) ≤ (r : Int) := by omega
    have l90 : ¬ (r : Int) ≤ 90 := by omega
    have l222 : ¬ (r : Int) ≤ 222 := by omega
    have l255 : ¬ (r : Int) ≤ 255 := by omega
    have l937 : ¬ (r : Int) ≤ 937 := by omega
    have l969 : (r : Int) ≤ 969 := by omega
    have l1039 : (r : Int) ≤ 1039 := by omega
    have l1071 : (r : Int) ≤ 1071 := by omega
    have l1119 : (r : Int) ≤ 1119 := by omega
    have e181 : ((r : Int) == 181) = false := by rw [beq_eq_false_iff_ne]; omega
    have e930 : ((r : Int) == 930) = false := by rw [beq_eq_false_iff_ne]; omega
    have e962 : ((r : Int) == 962) = false := by rw [beq_eq_false_iff_ne]; omega
    have n215 : ((r : Int) != 215) = true := by rw [bne_iff_ne]; omega
    clear h
    go_enter Tryd.func31, Tryd.ntmps31
    go_wp2_with fail
    go_ret2
    exact ⟨by rw [HS.out]; first | rfl | (unfold foldV; simp), Ext.refl _⟩
  · have HS := Lib.hid (show specF r = none by unfold specF; (repeat' split) <;> first | rfl | (exfalso; omega))
    have g65 : (65 : Int) ≤ (r : Int) := by omega
    have g192 : (192 : Int) ≤ (r : Int) := by omega
    have g913 : (913 : Int) ≤ (r : Int) := by omega
    have g945 : (945 : Int) ≤ (r : Int) := by omega
    have g1024 : ¬ (1024 : Int) ≤ (r : Int) := by omega
    have g1040 : ¬ (1040 : Int) ≤ (r : Int) := by omega
    have g1072 : ¬ (1072 : Int) ≤ (r : Int) := by omega
    have l90 : ¬ (r : Int) ≤ 90 := by omega
    have l222 : ¬ (r : Int) ≤ 222 := by omega
    have l255 : ¬ (r : Int) ≤ 255 := by omega
    have l937 : ¬ (r : Int) ≤ 937 := by omega
    have l969 : ¬ (r : Int) ≤ 969 := by omega
    have l1039 : (r : Int) ≤ 1039 := by omega
    have l1071 : (r : Int) ≤ 1071 := by omega
    have l1119 : (r : Int) ≤ 1119 := by omega
    have e181 : ((r : Int) == 181) = false := by rw [beq_eq_false_iff_ne]; omega
    have e930 : ((r : Int) == 930) = false := by rw [beq_eq_false_iff_ne]; omega
    have e962 : ((r : Int) == 962) = false := by rw [beq_eq_false_iff_ne]; omega
    have n215 : ((r : Int) != 215) = true := by rw [bne_iff_ne]; omega
    clear h
    go_enter Tryd.func31, Tryd.ntmps31
    go_wp2_with fail
    go_ret2
    exact ⟨by rw [HS.out]; first | rfl | (unfold foldV; simp), Ext.refl _⟩
  · have HS := Lib.hid (show specF r = some (r + 80) by unfold specF; (repeat' split) <;> first | rfl | (exfalso; omega))
    have g65 : (65 : Int) ≤ (r : Int) := by omega
    have g192 : (192 : Int) ≤ (r : Int) := by omega
    have g913 : (913 : Int) ≤ (r : Int) := by omega
    have g945 : (945 : Int) ≤ (r : Int) := by omega
    have g1024 : (1024 : Int) ≤ (r : Int) := by omega
    have g1040 : ¬ (1040 : Int) ≤ (r : Int) := by omega
    have g1072 : ¬ (1072 : Int) ≤ (r : Int) := by omega
    have l90 : ¬ (r : Int) ≤ 90 := by omega
    have l222 : ¬ (r : Int) ≤ 222 := by omega
    have l255 : ¬ (r : Int) ≤ 255 := by omega
    have l937 : ¬ (r : Int) ≤ 937 := by omega
    have l969 : ¬ (r : Int) ≤ 969 := by omega
    have l1039 : (r : Int) ≤ 1039 := by omega
    have l1071 : (r : Int) ≤ 1071 := by omega
    have l1119 : (r : Int) ≤ 1119 := by omega
    have e181 : ((r : Int) == 181) = false := by rw [beq_eq_false_iff_ne]; omega
    have e930 : ((r : Int) == 930) = false := by rw [beq_eq_false_iff_ne]; omega
    have e962 : ((r : Int) == 962) = false := by rw [beq_eq_false_iff_ne]; omega
    have n215 : ((r : Int) != 215) = true := by rw [bne_iff_ne]; omega
    clear h
    go_enter Tryd.func31, Tryd.ntmps31
    go_wp2_with fail
    go_ret2
    exact ⟨by rw [HS.out]; first | rfl | (unfold foldV; simp), Ext.refl _⟩
  · have HS := Lib.hid (show specF r = some (r + 32) by unfold specF; (repeat' split) <;> first | rfl | (exfalso; omega))
    have g65 : (65 : Int) ≤ (r : Int) := by omega
    have g192 : (192 : Int) ≤ (r : Int) := by omega
    have g913 : (913 : Int) ≤ (r : Int) := by omega
    have g945 : (945 : Int) ≤ (r : Int) := by omega
    have g1024 : (1024 : Int) ≤ (r : Int) := by omega
    have g1040 : (1040 : Int) ≤ (r : Int) := by omega
    have g1072 : ¬ (1072 : Int) ≤ (r : Int) := by omega
    have l90 : ¬ (r : Int) ≤ 90 := by omega
    have l222 : ¬ (r : Int) ≤ 222 := by omega
    have l255 : ¬ (r : Int) ≤ 255 := by omega
    have l937 : ¬ (r : Int) ≤ 937 := by omega
    have l969 : ¬ (r : Int) ≤ 969 := by omega
    have l1039 : ¬ (r : Int) ≤ 1039 := by omega
    have l1071 : (r : Int) ≤ 1071 := by omega
    have l1119 : (r : Int) ≤ 1119 := by omega
    have e181 : ((r : Int) == 181) = false := by rw [beq_eq_false_iff_ne]; omega
    have e930 : ((r : Int) == 930) = false := by rw [beq_eq_false_iff_ne]; omega
    have e962 : ((r : Int) == 962) = false := by rw [beq_eq_false_iff_ne]; omega
    have n215 : ((r : Int) != 215) = true := by rw [bne_iff_ne]; omega
    clear h
    go_enter Tryd.func31, Tryd.ntmps31
    go_wp2_with fail
    go_ret2
    exact ⟨by rw [HS.out]; first | rfl | (unfold foldV; simp), Ext.refl _⟩
  · have HS := Lib.hid (show specF r = some r by unfold specF; (repeat' split) <;> first | rfl | (exfalso; omega))
    have g65 : (65 : Int) ≤ (r : Int) := by omega
    have g192 : (192 : Int) ≤ (r : Int) := by omega
    have g913 : (913 : Int) ≤ (r : Int) := by omega
    have g945 : (945 : Int) ≤ (r : Int) := by omega
    have g1024 : (1024 : Int) ≤ (r : Int) := by omega
    have g1040 : (1040 : Int) ≤ (r : Int) := by omega
    have g1072 : (1072 : Int) ≤ (r : Int) := by omega
    have l90 : ¬ (r : Int) ≤ 90 := by omega
    have l222 : ¬ (r : Int) ≤ 222 := by omega
    have l255 : ¬ (r : Int) ≤ 255 := by omega
    have l937 : ¬ (r : Int) ≤ 937 := by omega
    have l969 : ¬ (r : Int) ≤ 969 := by omega
    have l1039 : ¬ (r : Int) ≤ 1039 := by omega
    have l1071 : ¬ (r : Int) ≤ 1071 := by omega
    have l1119 : (r : Int) ≤ 1119 := by omega
    have e181 : ((r : Int) == 181) = false := by rw [beq_eq_false_iff_ne]; omega
    have e930 : ((r : Int) == 930) = false := by rw [beq_eq_false_iff_ne]; omega
    have e962 : ((r : Int) == 962) = false := by rw [beq_eq_false_iff_ne]; omega
    have n215 : ((r : Int) != 215) = true := by rw [bne_iff_ne]; omega
    clear h
    go_enter Tryd.func31, Tryd.ntmps31
    go_wp2_with fail
    go_ret2
    exact ⟨by rw [HS.out]; first | rfl | (unfold foldV; simp), Ext.refl _⟩
  · have HS := Lib.hid (show specF r = none by unfold specF; (repeat' split) <;> first | rfl | (exfalso; omega))
    have g65 : (65 : Int) ≤ (r : Int) := by omega
    have g192 : (192 : Int) ≤ (r : Int) := by omega
    have g913 : (913 : Int) ≤ (r : Int) := by omega
    have g945 : (945 : Int) ≤ (r : Int) := by omega
    have g1024 : (1024 : Int) ≤ (r : Int) := by omega
    have g1040 : (1040 : Int) ≤ (r : Int) := by omega
    have g1072 : (1072 : Int) ≤ (r : Int) := by omega
    have l90 : ¬ (r : Int) ≤ 90 := by omega
    have l222 : ¬ (r : Int) ≤ 222 := by omega
    have l255 : ¬ (r : Int) ≤ 255 := by omega
    have l937 : ¬ (r : Int) ≤ 937 := by omega
    have l969 : ¬ (r : Int) ≤ 969 := by omega
    have l1039 : ¬ (r : Int) ≤ 1039 := by omega
    have l1071 : ¬ (r : Int) ≤ 1071 := by omega
    have l1119 : ¬ (r : Int) ≤ 1119 := by omega
    have e181 : ((r : Int) == 181) = false := by rw [beq_eq_false_iff_ne]; omega
    have e930 : ((r : Int) == 930) = false := by rw [beq_eq_false_iff_ne]; omega
    have e962 : ((r : Int) == 962) = false := by rw [beq_eq_false_iff_ne]; omega
    have n215 : ((r : Int) != 215) = true := by rw [bne_iff_ne]; omega
    clear h
    go_enter Tryd.func31, Tryd.ntmps31
    go_wp2_with fail
    go_ret2
    exact ⟨by rw [HS.out]; first | rfl | (unfold foldV; simp), Ext.refl _⟩
end Go.Proofs.YtiahholgpbjjfaaDoor
