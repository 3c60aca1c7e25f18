/- The wrappers over the functions on code points: bytes, impl, spec. Printed by funcw.py. -/
import Derived.Test.YtlbaoghebjaliaaDoorFunc
import Derived.Test.YtlbaoghebjaliaaDoorExactI
namespace Go.Proofs.YtlbaoghebjaliaaDoor
open Go.RowKit

theorem idxC_true (p : Int → Bool) (cs : List Ch) : idxC p true cs = firstC p 0 cs := by unfold idxC; congr 1; funext r; simp
theorem lidxC_true (p : Int → Bool) (cs : List Ch) : lidxC p true cs = lastC p 0 cs := by unfold lidxC; congr 1; funext r; simp
theorem idxC_false (p : Int → Bool) (cs : List Ch) : idxC p false cs = firstC (fun r => !p r) 0 cs := by unfold idxC; congr 1; funext r; simp
theorem lidxC_false (p : Int → Bool) (cs : List Ch) : lidxC p false cs = lastC (fun r => !p r) 0 cs := by unfold lidxC; congr 1; funext r; simp

set_option maxRecDepth 100000 in
theorem bytes_IndexFunc (sv : Value) (l : List UInt8) (v : Value) (rs : List Int) (nt : Bool) (w : World) (hb : Bs w sv l) (h : Is w v rs) (hT : Tabs w) :
    Calls Tryd.prog 52 #[sv, .func (.func 51) #[.agg #[v, .bool nt]] #[]] w (RetV (.int .i64 (firstC (holdsT rs nt) 0 (chunks l))) w) := by
  go_enter Tryd.func52, Tryd.ntmps52
  go_wp2_with (go_at_call 79; refine (bytes_indexFunc sv l v rs nt true w hb h hT).mono ?_)
  rintro _ w1 ⟨rfl, x1⟩
  rw [idxC_true]
  go_wp2_with fail
  go_ret
  exact ⟨rfl, x1⟩
set_option maxRecDepth 100000 in
theorem impl_IndexFunc (sv : Value) (l : List UInt8) (v : Value) (rs : List Int) (nt : Bool) (w : World) (hb : Bs w sv l) (h : Is w v rs) (hT : Tabs w) :
    Calls Tryd.prog 18 #[sv, .agg #[v, .bool nt]] w (RetV (.int .i64 (firstC (holdsT rs nt) 0 (chunks l))) w) := by
  obtain ⟨a, c, rfl, _, _, _⟩ := h.raw
  go_enter Tryd.func18, Tryd.ntmps18
  go_wp2_with (go_at_call 52; refine (bytes_IndexFunc sv l _ rs nt _ (hb.ext (Ext.alloc _ _)) (h.ext (Ext.alloc _ _)) (hT.ext (Ext.alloc _ _))).mono ?_)
  rintro _ w1 ⟨rfl, x1⟩
  go_wp2_with fail
  go_ret
  exact ⟨rfl, (Ext.alloc _ _).trans x1⟩
set_option maxRecDepth 100000 in
theorem spec_TextIndexFunc (s : ByteArray) (v : Value) (rs : List Int) (nt : Bool) (w : World) (hs : s.size ≤ 1099511627776) (h : Is w v rs) :
    Calls Tryd.prog 54 #[.string s, .agg #[v, .bool nt]] w (RetV (.int .i64 (firstC (holdsT rs nt) 0 (chunks s.data.toList))) w) := by
  obtain ⟨a, c, rfl, _, _, _⟩ := h.raw
  go_enter Tryd.func54, Tryd.ntmps54
  go_wp2_with (go_at_call 81; refine (spec_first s _ rs nt _ hs (h.ext (Ext.alloc _ _))).mono ?_)
  rintro _ w1 ⟨rfl, x1⟩
  go_wp2_with fail
  go_ret
  exact ⟨rfl, (Ext.alloc _ _).trans x1⟩
set_option maxRecDepth 100000 in
theorem spec_IndexFunc (sv : Value) (l : List UInt8) (v : Value) (rs : List Int) (nt : Bool) (w : World) (hl : l.length ≤ 1099511627776) (hb : Bs w sv l) (h : Is w v rs) :
    Calls Tryd.prog 20 #[sv, .agg #[v, .bool nt]] w (RetV (.int .i64 (firstC (holdsT rs nt) 0 (chunks l))) w) := by
  obtain ⟨a, c, rfl, _, _, _⟩ := h.raw
  have hb2 := fun A => hb.ext (Ext.alloc w A)
  go_enter Tryd.func20, Tryd.ntmps20
  go_wp2_with (first | refine wpList_toString rfl 30 9 _ rfl 5 Tryd.underlying30 Tryd.underlying5 Tryd.underlying9 _ _ rfl (hb2 _) ?_ | (go_at_call 54; refine (spec_TextIndexFunc ⟨l.toArray⟩ _ rs nt _ hl (h.ext (Ext.alloc _ _))).mono ?_))
  rintro _ w1 ⟨rfl, x1⟩
  go_wp2_with fail
  go_ret
  exact ⟨rfl, (Ext.alloc _ _).trans x1⟩
end Go.Proofs.YtlbaoghebjaliaaDoor
