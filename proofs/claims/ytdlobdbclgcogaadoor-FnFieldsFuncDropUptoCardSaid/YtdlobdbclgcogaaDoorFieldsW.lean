/- The wrappers over fields by a test. Printed by fieldsw.py. -/
import Derived.Test.YtdlobdbclgcogaaDoorFieldsB
import Derived.Test.YtdlobdbclgcogaaDoorFieldsS
namespace Go.Proofs.YtdlobdbclgcogaaDoor
open Go.RowKit

theorem fields_each (p : Int → Bool) (l : List UInt8) (hl : l.length ≤ 1099511627776) : ∀ x ∈ fieldsB p l, x.length ≤ 140737488355328 := by
  intro x hx
  have h1 := mem_size hx
  have h2 := fieldsB_size p l
  omega

set_option maxRecDepth 100000 in
theorem impl_FieldsFunc (sv : Value) (l : List UInt8) (v : Value) (rs : List Int) (nt : Bool) (w : World) (hb : Bs w sv l) (h : Is w v rs) (hT : Tabs w) (hl : l.length ≤ 1099511627776) :
    Calls Tryd.prog 18 #[sv, .agg #[v, .bool nt]] w (RetOwnL w (fieldsB (holdsT rs nt) l)) := by
  have hlen := fieldsB_len (holdsT rs nt) l
  obtain ⟨a, c, rfl, _, _, _⟩ := h.raw
  go_enter Tryd.func18, Tryd.ntmps18
  go_wp2_with (go_at_call 48; refine (bytes_FieldsFunc sv l _ rs nt _ (hb.ext (Ext.alloc _ _)) (h.ext (Ext.alloc _ _)) (hT.ext (Ext.alloc _ _)) hl).mono ?_)
  rintro _ w1 ⟨v1, rfl, b1, x1⟩
  have X := (Ext.alloc w _).trans x1
  clear x1
  go_wp2_with (go_at_call 47; refine (impl_freshAll v1 _ _ b1 (by omega) (fields_each _ l hl)).mono ?_)
  rintro _ w2 ⟨v2, rfl, o2, x2⟩
  go_wp2_with fail
  go_ret
  exact ⟨_, rfl, o2.mono X.size (Nat.le_refl _), X.trans x2⟩
end Go.Proofs.YtdlobdbclgcogaaDoor
