/- The wrappers over the functions on code points: bytes, impl, spec. Printed by funcw.py. -/
import Derived.Test.YtddakfdlgfadeaaDoorFunc
import Derived.Test.YtddakfdlgfadeaaDoorExactI
namespace Go.Proofs.YtddakfdlgfadeaaDoor
open Go.RowKit

theorem idxC_true (p : Int → Bool) (cs : List Ch) : idxC p true cs = firstC p 0 cs := by unfold idxC; congr 1; funext r; simp
theorem lidxC_true (p : Int → Bool) (cs : List Ch) : lidxC p true cs = lastC p 0 cs := by unfold lidxC; congr 1; funext r; simp
theorem idxC_false (p : Int → Bool) (cs : List Ch) : idxC p false cs = firstC (fun r => !p r) 0 cs := by unfold idxC; congr 1; funext r; simp
theorem lidxC_false (p : Int → Bool) (cs : List Ch) : lidxC p false cs = lastC (fun r => !p r) 0 cs := by unfold lidxC; congr 1; funext r; simp

set_option maxRecDepth 100000 in
theorem bytes_IndexFunc (sv : Value) (l : List UInt8) (v : Value) (rs : List Int) (nt : Bool) (w : World) (hb : Bs w sv l) (h : Is w v rs) (hT : Tabs w) :
    Calls Tryd.prog 52 #[sv, .func (.func 53) #[.agg #[v, .bool nt]] #[]] w (RetV (.int .i64 (firstC (holdsT rs nt) 0 (chunks l))) w) := by
  go_enter Tryd.func52, Tryd.ntmps52
  go_wp2_with (go_at_call 76; refine (bytes_indexFunc sv l v rs nt true w hb h hT).mono ?_)
  rintro _ w1 ⟨rfl, x1⟩
  rw [idxC_true]
  go_wp2_with fail
  go_ret
  exact ⟨rfl, x1⟩
set_option maxRecDepth 100000 in
theorem bytes_LastIndexFunc (sv : Value) (l : List UInt8) (v : Value) (rs : List Int) (nt : Bool) (w : World) (hb : Bs w sv l) (h : Is w v rs) (hT : Tabs w) :
    Calls Tryd.prog 62 #[sv, .func (.func 53) #[.agg #[v, .bool nt]] #[]] w (RetV (.int .i64 (lastC (holdsT rs nt) 0 (chunks l))) w) := by
  go_enter Tryd.func62, Tryd.ntmps62
  go_wp2_with (go_at_call 81; refine (bytes_lastIndexFunc sv l v rs nt true w hb h hT).mono ?_)
  rintro _ w1 ⟨rfl, x1⟩
  rw [lidxC_true]
  go_wp2_with fail
  go_ret
  exact ⟨rfl, x1⟩
set_option maxRecDepth 100000 in
theorem bytes_ContainsFunc (sv : Value) (l : List UInt8) (v : Value) (rs : List Int) (nt : Bool) (w : World) (hb : Bs w sv l) (h : Is w v rs) (hT : Tabs w) :
    Calls Tryd.prog 55 #[sv, .func (.func 53) #[.agg #[v, .bool nt]] #[]] w (RetV (.bool (decide (0 ≤ firstC (holdsT rs nt) 0 (chunks l)))) w) := by
  go_enter Tryd.func55, Tryd.ntmps55
  go_wp2_with (go_at_call 52; refine (bytes_IndexFunc sv l v rs nt w hb h hT).mono ?_)
  rintro _ w1 ⟨rfl, x1⟩
  skip
  go_wp2_with fail
  go_ret
  exact ⟨rfl, x1⟩
set_option maxRecDepth 100000 in
theorem impl_IndexFunc (sv : Value) (l : List UInt8) (v : Value) (rs : List Int) (nt : Bool) (w : World) (hb : Bs w sv l) (h : Is w v rs) (hT : Tabs w) :
    Calls Tryd.prog 19 #[sv, .agg #[v, .bool nt]] w (RetV (.int .i64 (firstC (holdsT rs nt) 0 (chunks l))) w) := by
  obtain ⟨a, c, rfl, _, _, _⟩ := h.raw
  go_enter Tryd.func19, Tryd.ntmps19
  go_wp2_with (go_at_call 52; refine (bytes_IndexFunc sv l _ rs nt _ (hb.ext (Ext.alloc _ _)) (h.ext (Ext.alloc _ _)) (hT.ext (Ext.alloc _ _))).mono ?_)
  rintro _ w1 ⟨rfl, x1⟩
  go_wp2_with fail
  go_ret
  exact ⟨rfl, (Ext.alloc _ _).trans x1⟩
set_option maxRecDepth 100000 in
theorem impl_LastIndexFunc (sv : Value) (l : List UInt8) (v : Value) (rs : List Int) (nt : Bool) (w : World) (hb : Bs w sv l) (h : Is w v rs) (hT : Tabs w) :
    Calls Tryd.prog 36 #[sv, .agg #[v, .bool nt]] w (RetV (.int .i64 (lastC (holdsT rs nt) 0 (chunks l))) w) := by
  obtain ⟨a, c, rfl, _, _, _⟩ := h.raw
  go_enter Tryd.func36, Tryd.ntmps36
  go_wp2_with (go_at_call 62; refine (bytes_LastIndexFunc sv l _ rs nt _ (hb.ext (Ext.alloc _ _)) (h.ext (Ext.alloc _ _)) (hT.ext (Ext.alloc _ _))).mono ?_)
  rintro _ w1 ⟨rfl, x1⟩
  go_wp2_with fail
  go_ret
  exact ⟨rfl, (Ext.alloc _ _).trans x1⟩
set_option maxRecDepth 100000 in
theorem impl_ContainsFunc (sv : Value) (l : List UInt8) (v : Value) (rs : List Int) (nt : Bool) (w : World) (hb : Bs w sv l) (h : Is w v rs) (hT : Tabs w) :
    Calls Tryd.prog 24 #[sv, .agg #[v, .bool nt]] w (RetV (.bool (decide (0 ≤ firstC (holdsT rs nt) 0 (chunks l)))) w) := by
  obtain ⟨a, c, rfl, _, _, _⟩ := h.raw
  go_enter Tryd.func24, Tryd.ntmps24
  go_wp2_with (go_at_call 55; refine (bytes_ContainsFunc sv l _ rs nt _ (hb.ext (Ext.alloc _ _)) (h.ext (Ext.alloc _ _)) (hT.ext (Ext.alloc _ _))).mono ?_)
  rintro _ w1 ⟨rfl, x1⟩
  go_wp2_with fail
  go_ret
  exact ⟨rfl, (Ext.alloc _ _).trans x1⟩
set_option maxRecDepth 100000 in
theorem spec_TextIndexFunc (s : ByteArray) (v : Value) (rs : List Int) (nt : Bool) (w : World) (hs : s.size ≤ 1099511627776) (h : Is w v rs) :
    Calls Tryd.prog 50 #[.string s, .agg #[v, .bool nt]] w (RetV (.int .i64 (firstC (holdsT rs nt) 0 (chunks s.data.toList))) w) := by
  obtain ⟨a, c, rfl, _, _, _⟩ := h.raw
  go_enter Tryd.func50, Tryd.ntmps50
  go_wp2_with (go_at_call 75; refine (spec_first s _ rs nt _ hs (h.ext (Ext.alloc _ _))).mono ?_)
  rintro _ w1 ⟨rfl, x1⟩
  go_wp2_with fail
  go_ret
  exact ⟨rfl, (Ext.alloc _ _).trans x1⟩
set_option maxRecDepth 100000 in
theorem spec_IndexFunc (sv : Value) (l : List UInt8) (v : Value) (rs : List Int) (nt : Bool) (w : World) (hl : l.length ≤ 1099511627776) (hb : Bs w sv l) (h : Is w v rs) :
    Calls Tryd.prog 16 #[sv, .agg #[v, .bool nt]] w (RetV (.int .i64 (firstC (holdsT rs nt) 0 (chunks l))) w) := by
  obtain ⟨a, c, rfl, _, _, _⟩ := h.raw
  have hb2 := fun A => hb.ext (Ext.alloc w A)
  go_enter Tryd.func16, Tryd.ntmps16
  go_wp2_with (first | refine wpList_toString rfl 22 9 _ rfl 5 Tryd.underlying22 Tryd.underlying5 Tryd.underlying9 _ _ rfl (hb2 _) ?_ | (go_at_call 50; refine (spec_TextIndexFunc ⟨l.toArray⟩ _ rs nt _ hl (h.ext (Ext.alloc _ _))).mono ?_))
  rintro _ w1 ⟨rfl, x1⟩
  go_wp2_with fail
  go_ret
  exact ⟨rfl, (Ext.alloc _ _).trans x1⟩
set_option maxRecDepth 100000 in
theorem spec_TextLastIndexFunc (s : ByteArray) (v : Value) (rs : List Int) (nt : Bool) (w : World) (hs : s.size ≤ 1099511627776) (h : Is w v rs) :
    Calls Tryd.prog 61 #[.string s, .agg #[v, .bool nt]] w (RetV (.int .i64 (lastC (holdsT rs nt) 0 (chunks s.data.toList))) w) := by
  obtain ⟨a, c, rfl, _, _, _⟩ := h.raw
  go_enter Tryd.func61, Tryd.ntmps61
  go_wp2_with (go_at_call 80; refine (spec_last s _ rs nt _ hs (h.ext (Ext.alloc _ _))).mono ?_)
  rintro _ w1 ⟨rfl, x1⟩
  go_wp2_with fail
  go_ret
  exact ⟨rfl, (Ext.alloc _ _).trans x1⟩
set_option maxRecDepth 100000 in
theorem spec_LastIndexFunc (sv : Value) (l : List UInt8) (v : Value) (rs : List Int) (nt : Bool) (w : World) (hl : l.length ≤ 1099511627776) (hb : Bs w sv l) (h : Is w v rs) :
    Calls Tryd.prog 35 #[sv, .agg #[v, .bool nt]] w (RetV (.int .i64 (lastC (holdsT rs nt) 0 (chunks l))) w) := by
  obtain ⟨a, c, rfl, _, _, _⟩ := h.raw
  have hb2 := fun A => hb.ext (Ext.alloc w A)
  go_enter Tryd.func35, Tryd.ntmps35
  go_wp2_with (first | refine wpList_toString rfl 22 9 _ rfl 5 Tryd.underlying22 Tryd.underlying5 Tryd.underlying9 _ _ rfl (hb2 _) ?_ | (go_at_call 61; refine (spec_TextLastIndexFunc ⟨l.toArray⟩ _ rs nt _ hl (h.ext (Ext.alloc _ _))).mono ?_))
  rintro _ w1 ⟨rfl, x1⟩
  go_wp2_with fail
  go_ret
  exact ⟨rfl, (Ext.alloc _ _).trans x1⟩
set_option maxRecDepth 100000 in
theorem spec_TextContainsFunc (s : ByteArray) (v : Value) (rs : List Int) (nt : Bool) (w : World) (hs : s.size ≤ 1099511627776) (h : Is w v rs) :
    Calls Tryd.prog 54 #[.string s, .agg #[v, .bool nt]] w (RetV (.bool (decide (0 ≤ firstC (holdsT rs nt) 0 (chunks s.data.toList)))) w) := by
  obtain ⟨a, c, rfl, _, _, _⟩ := h.raw
  go_enter Tryd.func54, Tryd.ntmps54
  go_wp2_with (go_at_call 75; refine (spec_first s _ rs nt _ hs (h.ext (Ext.alloc _ _))).mono ?_)
  rintro _ w1 ⟨rfl, x1⟩
  go_wp2_with fail
  go_ret
  exact ⟨rfl, (Ext.alloc _ _).trans x1⟩
set_option maxRecDepth 100000 in
theorem spec_ContainsFunc (sv : Value) (l : List UInt8) (v : Value) (rs : List Int) (nt : Bool) (w : World) (hl : l.length ≤ 1099511627776) (hb : Bs w sv l) (h : Is w v rs) :
    Calls Tryd.prog 23 #[sv, .agg #[v, .bool nt]] w (RetV (.bool (decide (0 ≤ firstC (holdsT rs nt) 0 (chunks l)))) w) := by
  obtain ⟨a, c, rfl, _, _, _⟩ := h.raw
  have hb2 := fun A => hb.ext (Ext.alloc w A)
  go_enter Tryd.func23, Tryd.ntmps23
  go_wp2_with (first | refine wpList_toString rfl 22 9 _ rfl 5 Tryd.underlying22 Tryd.underlying5 Tryd.underlying9 _ _ rfl (hb2 _) ?_ | (go_at_call 54; refine (spec_TextContainsFunc ⟨l.toArray⟩ _ rs nt _ hl (h.ext (Ext.alloc _ _))).mono ?_))
  rintro _ w1 ⟨rfl, x1⟩
  go_wp2_with fail
  go_ret
  exact ⟨rfl, (Ext.alloc _ _).trans x1⟩
end Go.Proofs.YtddakfdlgfadeaaDoor
