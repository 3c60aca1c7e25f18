/- impl.Fields, spec.Fields, spec.FieldsSeq. -/
import Derived.Test.YthbfdajbajijeaaDoorFieldsA
import Derived.Test.YthbfdajbajijeaaDoorFieldsW
import Derived.Test.YthbfdajbajijeaaDoorBlankX
namespace Go.Proofs.YthbfdajbajijeaaDoor
open Go.RowKit

set_option maxRecDepth 100000 in
theorem impl_Fields (sv : Value) (l : List UInt8) (w : World) (hb : Bs w sv l) (h : White w) (hT : Tabs w) (hl : l.length ≤ 1099511627776) :
    Calls Tryd.prog 18 #[sv] w (RetOwnL w (fieldsB wsP l)) := by
  have hlen := fieldsB_len wsP l
  go_enter Tryd.func18, Tryd.ntmps18
  go_wp2_with (go_at_call 43; refine (bytes_Fields sv l _ hb h hT hl).mono ?_)
  rintro _ w1 ⟨v1, rfl, b1, x1⟩
  go_wp2_with (go_at_call 42; refine (impl_freshAll v1 _ _ b1 (by omega) (fields_each _ l hl)).mono ?_)
  rintro _ w2 ⟨v2, rfl, o2, x2⟩
  go_wp2_with fail
  go_ret
  exact ⟨_, rfl, o2.mono x1.size (Nat.le_refl _), x1.trans x2⟩
set_option maxRecDepth 100000 in
theorem spec_TextFields (s : ByteArray) (w : World) (hs : s.size ≤ 1099511627776) :
    Calls Tryd.prog 54 #[.string s] w (RetSs w (fieldsB wsP s.data.toList)) := by
  rw [← holds_blank']
  have cB := fun W => spec_blank W
  obtain ⟨rs, hrs⟩ : ∃ rs, blankR 12289 = rs := ⟨_, rfl⟩
  simp only [hrs] at cB ⊢
  clear hrs
  go_enter Tryd.func54, Tryd.ntmps54
  go_wp2_with (go_at_call 63; refine (cB _).mono ?_)
  rintro _ w1 ⟨v1, rfl, i1, x1⟩
  obtain ⟨a1, c1, rfl, _, _, _⟩ := i1.raw
  go_wp2_with (go_at_call 67; refine (spec_runs s _ rs false _ hs i1).mono ?_)
  rintro _ w2 ⟨v2, rfl, o2, x2⟩
  go_wp2_with fail
  go_ret
  exact ⟨_, rfl, vs_of_owns o2, x1.trans x2⟩
set_option maxRecDepth 100000 in
theorem spec_Fields (sv : Value) (l : List UInt8) (w : World) (hl : l.length ≤ 1099511627776) (hb : Bs w sv l) :
    Calls Tryd.prog 34 #[sv] w (RetOwnL w (fieldsB wsP l)) := by
  have hlen := fieldsB_len wsP l
  go_enter Tryd.func34, Tryd.ntmps34
  go_wp2_with (first | refine wpList_toString rfl 27 9 _ rfl 5 Tryd.underlying27 Tryd.underlying5 Tryd.underlying9 _ _ rfl hb ?_ | (go_at_call 54; refine (spec_TextFields ⟨l.toArray⟩ _ hl).mono ?_))
  rintro _ w1 ⟨v1, rfl, s1, x1⟩
  have s1 : Ss w1 v1 (fieldsB wsP l) := s1
  go_wp2_with (go_at_call 50; refine (spec_copies v1 _ _ s1 (by omega) (fields_each _ l hl)).mono ?_)
  rintro _ w2 ⟨v2, rfl, o2, x2⟩
  go_wp2_with fail
  go_ret
  exact ⟨_, rfl, o2.mono x1.size (Nat.le_refl _), x1.trans x2⟩
set_option maxRecDepth 100000 in
theorem spec_TextFieldsSeq (s : ByteArray) (w : World) (hs : s.size ≤ 1099511627776) :
    Calls Tryd.prog 51 #[.string s] w (RetSs w (fieldsB wsP s.data.toList)) := by
  rw [← holds_blank']
  have cB := fun W => spec_blank W
  obtain ⟨rs, hrs⟩ : ∃ rs, blankR 12289 = rs := ⟨_, rfl⟩
  simp only [hrs] at cB ⊢
  clear hrs
  go_enter Tryd.func51, Tryd.ntmps51
  go_wp2_with (go_at_call 63; refine (cB _).mono ?_)
  rintro _ w1 ⟨v1, rfl, i1, x1⟩
  obtain ⟨a1, c1, rfl, _, _, _⟩ := i1.raw
  go_wp2_with (go_at_call 67; refine (spec_runs s _ rs false _ hs i1).mono ?_)
  rintro _ w2 ⟨v2, rfl, o2, x2⟩
  go_wp2_with fail
  go_ret
  exact ⟨_, rfl, vs_of_owns o2, x1.trans x2⟩
set_option maxRecDepth 100000 in
theorem spec_FieldsSeq (sv : Value) (l : List UInt8) (w : World) (hl : l.length ≤ 1099511627776) (hb : Bs w sv l) :
    Calls Tryd.prog 26 #[sv] w (RetOwnL w (fieldsB wsP l)) := by
  have hlen := fieldsB_len wsP l
  go_enter Tryd.func26, Tryd.ntmps26
  go_wp2_with (first | refine wpList_toString rfl 27 9 _ rfl 5 Tryd.underlying27 Tryd.underlying5 Tryd.underlying9 _ _ rfl hb ?_ | (go_at_call 51; refine (spec_TextFieldsSeq ⟨l.toArray⟩ _ hl).mono ?_))
  rintro _ w1 ⟨v1, rfl, s1, x1⟩
  have s1 : Ss w1 v1 (fieldsB wsP l) := s1
  go_wp2_with (go_at_call 50; refine (spec_copies v1 _ _ s1 (by omega) (fields_each _ l hl)).mono ?_)
  rintro _ w2 ⟨v2, rfl, o2, x2⟩
  go_wp2_with fail
  go_ret
  exact ⟨_, rfl, o2.mono x1.size (Nat.le_refl _), x1.trans x2⟩
end Go.Proofs.YthbfdajbajijeaaDoor
