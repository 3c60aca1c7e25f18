/- The wrappers over the functions on code points: bytes, impl, spec. Printed by funcw.py. -/
import Derived.Test.YtdlobdbclgcogaaDoorFunc
import Derived.Test.YtdlobdbclgcogaaDoorExactI
namespace Go.Proofs.YtdlobdbclgcogaaDoor
open Go.RowKit

theorem idxC_true (p : Int → Bool) (cs : List Ch) : idxC p true cs = firstC p 0 cs := by unfold idxC; congr 1; funext r; simp
theorem lidxC_true (p : Int → Bool) (cs : List Ch) : lidxC p true cs = lastC p 0 cs := by unfold lidxC; congr 1; funext r; simp
theorem idxC_false (p : Int → Bool) (cs : List Ch) : idxC p false cs = firstC (fun r => !p r) 0 cs := by unfold idxC; congr 1; funext r; simp
theorem lidxC_false (p : Int → Bool) (cs : List Ch) : lidxC p false cs = lastC (fun r => !p r) 0 cs := by unfold lidxC; congr 1; funext r; simp

set_option maxRecDepth 100000 in
theorem bytes_IndexFunc (sv : Value) (l : List UInt8) (v : Value) (rs : List Int) (nt : Bool) (w : World) (hb : Bs w sv l) (h : Is w v rs) (hT : Tabs w) :
    Calls Tryd.prog 59 #[sv, .func (.func 49) #[.agg #[v, .bool nt]] #[]] w (RetV (.int .i64 (firstC (holdsT rs nt) 0 (chunks l))) w) := by
  go_enter Tryd.func59, Tryd.ntmps59
  go_wp2_with (go_at_call 84; refine (bytes_indexFunc sv l v rs nt true w hb h hT).mono ?_)
  rintro _ w1 ⟨rfl, x1⟩
  rw [idxC_true]
  go_wp2_with fail
  go_ret
  exact ⟨rfl, x1⟩
set_option maxRecDepth 100000 in
theorem bytes_LastIndexFunc (sv : Value) (l : List UInt8) (v : Value) (rs : List Int) (nt : Bool) (w : World) (hb : Bs w sv l) (h : Is w v rs) (hT : Tabs w) :
    Calls Tryd.prog 60 #[sv, .func (.func 49) #[.agg #[v, .bool nt]] #[]] w (RetV (.int .i64 (lastC (holdsT rs nt) 0 (chunks l))) w) := by
  go_enter Tryd.func60, Tryd.ntmps60
  go_wp2_with (go_at_call 85; refine (bytes_lastIndexFunc sv l v rs nt true w hb h hT).mono ?_)
  rintro _ w1 ⟨rfl, x1⟩
  rw [lidxC_true]
  go_wp2_with fail
  go_ret
  exact ⟨rfl, x1⟩
set_option maxRecDepth 100000 in
theorem impl_IndexFunc (sv : Value) (l : List UInt8) (v : Value) (rs : List Int) (nt : Bool) (w : World) (hb : Bs w sv l) (h : Is w v rs) (hT : Tabs w) :
    Calls Tryd.prog 33 #[sv, .agg #[v, .bool nt]] w (RetV (.int .i64 (firstC (holdsT rs nt) 0 (chunks l))) w) := by
  obtain ⟨a, c, rfl, _, _, _⟩ := h.raw
  go_enter Tryd.func33, Tryd.ntmps33
  go_wp2_with (go_at_call 59; refine (bytes_IndexFunc sv l _ rs nt _ (hb.ext (Ext.alloc _ _)) (h.ext (Ext.alloc _ _)) (hT.ext (Ext.alloc _ _))).mono ?_)
  rintro _ w1 ⟨rfl, x1⟩
  go_wp2_with fail
  go_ret
  exact ⟨rfl, (Ext.alloc _ _).trans x1⟩
set_option maxRecDepth 100000 in
theorem impl_LastIndexFunc (sv : Value) (l : List UInt8) (v : Value) (rs : List Int) (nt : Bool) (w : World) (hb : Bs w sv l) (h : Is w v rs) (hT : Tabs w) :
    Calls Tryd.prog 34 #[sv, .agg #[v, .bool nt]] w (RetV (.int .i64 (lastC (holdsT rs nt) 0 (chunks l))) w) := by
  obtain ⟨a, c, rfl, _, _, _⟩ := h.raw
  go_enter Tryd.func34, Tryd.ntmps34
  go_wp2_with (go_at_call 60; refine (bytes_LastIndexFunc sv l _ rs nt _ (hb.ext (Ext.alloc _ _)) (h.ext (Ext.alloc _ _)) (hT.ext (Ext.alloc _ _))).mono ?_)
  rintro _ w1 ⟨rfl, x1⟩
  go_wp2_with fail
  go_ret
  exact ⟨rfl, (Ext.alloc _ _).trans x1⟩
end Go.Proofs.YtdlobdbclgcogaaDoor
