/- The wrappers over fields by a test. Printed by fieldsw.py. -/
import Derived.Test.YtddakfdlgfadeaaDoorFieldsB
import Derived.Test.YtddakfdlgfadeaaDoorFieldsS
namespace Go.Proofs.YtddakfdlgfadeaaDoor
open Go.RowKit

theorem fields_each (p : Int → Bool) (l : List UInt8) (hl : l.length ≤ 1099511627776) : ∀ x ∈ fieldsB p l, x.length ≤ 140737488355328 := by
  intro x hx
  have h1 := mem_size hx
  have h2 := fieldsB_size p l
  omega

set_option maxRecDepth 100000 in
theorem spec_TextFieldsFunc (s : ByteArray) (v : Value) (rs : List Int) (nt : Bool) (w : World) (hs : s.size ≤ 1099511627776) (h : Is w v rs) :
    Calls Tryd.prog 69 #[.string s, .agg #[v, .bool nt]] w (RetSs w (fieldsB (holdsT rs nt) s.data.toList)) := by
  obtain ⟨a, c, rfl, _, _, _⟩ := h.raw
  go_enter Tryd.func69, Tryd.ntmps69
  go_wp2_with (go_at_call 85; refine (spec_runs s _ rs nt _ hs (h.ext (Ext.alloc _ _))).mono ?_)
  rintro _ w1 ⟨v1, rfl, o1, x1⟩
  go_wp2_with fail
  go_ret
  exact ⟨_, rfl, vs_of_owns o1, (Ext.alloc _ _).trans x1⟩
set_option maxRecDepth 100000 in
theorem spec_FieldsFunc (sv : Value) (l : List UInt8) (v : Value) (rs : List Int) (nt : Bool) (w : World) (hl : l.length ≤ 1099511627776) (hb : Bs w sv l) (h : Is w v rs) :
    Calls Tryd.prog 42 #[sv, .agg #[v, .bool nt]] w (RetOwnL w (fieldsB (holdsT rs nt) l)) := by
  have hlen := fieldsB_len (holdsT rs nt) l
  obtain ⟨a, c, rfl, _, _, _⟩ := h.raw
  have hb2 := fun A => hb.ext (Ext.alloc w A)
  go_enter Tryd.func42, Tryd.ntmps42
  go_wp2_with (first | refine wpList_toString rfl 22 9 _ rfl 5 Tryd.underlying22 Tryd.underlying5 Tryd.underlying9 _ _ rfl (hb2 _) ?_ | (go_at_call 69; refine (spec_TextFieldsFunc ⟨l.toArray⟩ _ rs nt _ hl (h.ext (Ext.alloc _ _))).mono ?_))
  rintro _ w1 ⟨v1, rfl, s1, x1⟩
  have X := (Ext.alloc w _).trans x1
  have s1 : Ss w1 v1 (fieldsB (holdsT rs nt) l) := s1
  clear x1
  go_wp2_with (go_at_call 68; refine (spec_copies v1 _ _ s1 (by omega) (fields_each _ l hl)).mono ?_)
  rintro _ w2 ⟨v2, rfl, o2, x2⟩
  go_wp2_with fail
  go_ret
  exact ⟨_, rfl, o2.mono X.size (Nat.le_refl _), X.trans x2⟩
set_option maxRecDepth 100000 in
theorem spec_TextFieldsFuncSeq (s : ByteArray) (v : Value) (rs : List Int) (nt : Bool) (w : World) (hs : s.size ≤ 1099511627776) (h : Is w v rs) :
    Calls Tryd.prog 72 #[.string s, .agg #[v, .bool nt]] w (RetSs w (fieldsB (holdsT rs nt) s.data.toList)) := by
  obtain ⟨a, c, rfl, _, _, _⟩ := h.raw
  go_enter Tryd.func72, Tryd.ntmps72
  go_wp2_with (go_at_call 85; refine (spec_runs s _ rs nt _ hs (h.ext (Ext.alloc _ _))).mono ?_)
  rintro _ w1 ⟨v1, rfl, o1, x1⟩
  go_wp2_with fail
  go_ret
  exact ⟨_, rfl, vs_of_owns o1, (Ext.alloc _ _).trans x1⟩
set_option maxRecDepth 100000 in
theorem spec_FieldsFuncSeq (sv : Value) (l : List UInt8) (v : Value) (rs : List Int) (nt : Bool) (w : World) (hl : l.length ≤ 1099511627776) (hb : Bs w sv l) (h : Is w v rs) :
    Calls Tryd.prog 47 #[sv, .agg #[v, .bool nt]] w (RetOwnL w (fieldsB (holdsT rs nt) l)) := by
  have hlen := fieldsB_len (holdsT rs nt) l
  obtain ⟨a, c, rfl, _, _, _⟩ := h.raw
  have hb2 := fun A => hb.ext (Ext.alloc w A)
  go_enter Tryd.func47, Tryd.ntmps47
  go_wp2_with (first | refine wpList_toString rfl 22 9 _ rfl 5 Tryd.underlying22 Tryd.underlying5 Tryd.underlying9 _ _ rfl (hb2 _) ?_ | (go_at_call 72; refine (spec_TextFieldsFuncSeq ⟨l.toArray⟩ _ rs nt _ hl (h.ext (Ext.alloc _ _))).mono ?_))
  rintro _ w1 ⟨v1, rfl, s1, x1⟩
  have X := (Ext.alloc w _).trans x1
  have s1 : Ss w1 v1 (fieldsB (holdsT rs nt) l) := s1
  clear x1
  go_wp2_with (go_at_call 68; refine (spec_copies v1 _ _ s1 (by omega) (fields_each _ l hl)).mono ?_)
  rintro _ w2 ⟨v2, rfl, o2, x2⟩
  go_wp2_with fail
  go_ret
  exact ⟨_, rfl, o2.mono X.size (Nat.le_refl _), X.trans x2⟩
set_option maxRecDepth 100000 in
theorem impl_FieldsFunc (sv : Value) (l : List UInt8) (v : Value) (rs : List Int) (nt : Bool) (w : World) (hb : Bs w sv l) (h : Is w v rs) (hT : Tabs w) (hl : l.length ≤ 1099511627776) :
    Calls Tryd.prog 43 #[sv, .agg #[v, .bool nt]] w (RetOwnL w (fieldsB (holdsT rs nt) l)) := by
  have hlen := fieldsB_len (holdsT rs nt) l
  obtain ⟨a, c, rfl, _, _, _⟩ := h.raw
  go_enter Tryd.func43, Tryd.ntmps43
  go_wp2_with (go_at_call 71; refine (bytes_FieldsFunc sv l _ rs nt _ (hb.ext (Ext.alloc _ _)) (h.ext (Ext.alloc _ _)) (hT.ext (Ext.alloc _ _)) hl).mono ?_)
  rintro _ w1 ⟨v1, rfl, b1, x1⟩
  have X := (Ext.alloc w _).trans x1
  clear x1
  go_wp2_with (go_at_call 70; refine (impl_freshAll v1 _ _ b1 (by omega) (fields_each _ l hl)).mono ?_)
  rintro _ w2 ⟨v2, rfl, o2, x2⟩
  go_wp2_with fail
  go_ret
  exact ⟨_, rfl, o2.mono X.size (Nat.le_refl _), X.trans x2⟩
end Go.Proofs.YtddakfdlgfadeaaDoor
