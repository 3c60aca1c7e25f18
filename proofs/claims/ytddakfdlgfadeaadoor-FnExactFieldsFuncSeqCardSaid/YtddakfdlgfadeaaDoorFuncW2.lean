/- The wrappers over the trims by a test: impl, spec. Printed by funcw2.py. -/
import Derived.Test.YtddakfdlgfadeaaDoorFunc2
import Derived.Test.YtddakfdlgfadeaaDoorFuncW
import Derived.Deep.RegionHeld3
namespace Go.Proofs.YtddakfdlgfadeaaDoor
open Go.RowKit

theorem glue_trimL_len (p : Int → Bool) (cs : List Ch) : (glue (trimL p cs)).length ≤ (glue cs).length := by
  unfold trimL
  induction cs with
  | nil => simp
  | cons c cs ih =>
    rw [List.dropWhile_cons]
    split
    · rw [glue_cons, List.length_append]; omega
    · exact Nat.le_refl _
theorem glue_append_len (a b : List Ch) : (glue (a ++ b)).length = (glue a).length + (glue b).length := by rw [glue_append, List.length_append]
theorem glue_trimR_len (p : Int → Bool) (cs : List Ch) : (glue (trimR p cs)).length ≤ (glue cs).length := by
  rcases lastC_range (fun r => !p r) cs 0 with ⟨_, hn⟩ | ⟨i, hi, _, hn, hp⟩
  · rw [trimR_none p cs (fun c hc => by have := hn c hc; simpa using this)]; simp [glue]
  · rw [trimR_at p cs i hi (fun c hc => by have := hn c hc; simpa using this) (by simpa using hp)]
    have e := List.take_append_drop (i + 1) cs
    have := glue_append_len (cs.take (i + 1)) (cs.drop (i + 1))
    rw [e] at this
    omega

def tlB (p : Int → Bool) (l : List UInt8) : List UInt8 := glue (trimL p (chunks l))
def trB (p : Int → Bool) (l : List UInt8) : List UInt8 := glue (trimR p (chunks l))
def tB (p : Int → Bool) (l : List UInt8) : List UInt8 := trB p (tlB p l)
theorem tlB_len (p : Int → Bool) (l : List UInt8) : (tlB p l).length ≤ l.length := by have := glue_trimL_len p (chunks l); rwa [glue_chunks] at this
theorem trB_len (p : Int → Bool) (l : List UInt8) : (trB p l).length ≤ l.length := by have := glue_trimR_len p (chunks l); rwa [glue_chunks] at this
theorem tB_len (p : Int → Bool) (l : List UInt8) : (tB p l).length ≤ l.length := Nat.le_trans (trB_len p _) (tlB_len p l)

set_option maxRecDepth 100000 in
theorem impl_TrimLeftFunc (sv : Value) (l : List UInt8) (v : Value) (rs : List Int) (nt : Bool) (w : World) (hb : Bs w sv l) (h : Is w v rs) (hT : Tabs w) (hl : l.length ≤ 140737488355328) :
    Calls Tryd.prog 32 #[sv, .agg #[v, .bool nt]] w (RetOwn w (tlB (holdsT rs nt) l)) := by
  have hr := Nat.le_trans (tlB_len (holdsT rs nt) l) hl
  obtain ⟨a, c, rfl, _, _, _⟩ := h.raw
  go_enter Tryd.func32, Tryd.ntmps32
  go_wp2_with (go_at_call 60; refine (bytes_TrimLeftFunc sv l _ rs nt _ (hb.ext (Ext.alloc _ _)) (h.ext (Ext.alloc _ _)) (hT.ext (Ext.alloc _ _))).mono ?_)
  rintro _ w1 ⟨v1, rfl, b1, x1⟩
  go_wp2_with (go_at_call 59; refine (impl_fresh v1 _ _ b1 hr).mono ?_)
  rintro _ w2 ⟨v2, rfl, o2, x2⟩
  have X := ((Ext.alloc w _).trans x1)
  go_wp2_with fail
  go_ret
  exact ⟨_, rfl, o2.mono X.size (Nat.le_refl _), X.trans x2⟩
set_option maxRecDepth 100000 in
theorem impl_TrimRightFunc (sv : Value) (l : List UInt8) (v : Value) (rs : List Int) (nt : Bool) (w : World) (hb : Bs w sv l) (h : Is w v rs) (hT : Tabs w) (hl : l.length ≤ 140737488355328) :
    Calls Tryd.prog 38 #[sv, .agg #[v, .bool nt]] w (RetOwn w (trB (holdsT rs nt) l)) := by
  have hr := Nat.le_trans (trB_len (holdsT rs nt) l) hl
  obtain ⟨a, c, rfl, _, _, _⟩ := h.raw
  go_enter Tryd.func38, Tryd.ntmps38
  go_wp2_with (go_at_call 64; refine (bytes_TrimRightFunc sv l _ rs nt _ (hb.ext (Ext.alloc _ _)) (h.ext (Ext.alloc _ _)) (hT.ext (Ext.alloc _ _))).mono ?_)
  rintro _ w1 ⟨v1, rfl, b1, x1⟩
  go_wp2_with (go_at_call 59; refine (impl_fresh v1 _ _ b1 hr).mono ?_)
  rintro _ w2 ⟨v2, rfl, o2, x2⟩
  have X := ((Ext.alloc w _).trans x1)
  go_wp2_with fail
  go_ret
  exact ⟨_, rfl, o2.mono X.size (Nat.le_refl _), X.trans x2⟩
set_option maxRecDepth 100000 in
theorem impl_TrimFunc (sv : Value) (l : List UInt8) (v : Value) (rs : List Int) (nt : Bool) (w : World) (hb : Bs w sv l) (h : Is w v rs) (hT : Tabs w) (hl : l.length ≤ 140737488355328) :
    Calls Tryd.prog 41 #[sv, .agg #[v, .bool nt]] w (RetOwn w (tB (holdsT rs nt) l)) := by
  have hr := Nat.le_trans (tB_len (holdsT rs nt) l) hl
  obtain ⟨a, c, rfl, _, _, _⟩ := h.raw
  go_enter Tryd.func41, Tryd.ntmps41
  go_wp2_with (go_at_call 67; refine (bytes_TrimFunc sv l _ rs nt _ (hb.ext (Ext.alloc _ _)) (h.ext (Ext.alloc _ _)) (hT.ext (Ext.alloc _ _))).mono ?_)
  rintro _ w1 ⟨v1, rfl, b1, x1⟩
  go_wp2_with (go_at_call 59; refine (impl_fresh v1 _ _ b1 hr).mono ?_)
  rintro _ w2 ⟨v2, rfl, o2, x2⟩
  have X := ((Ext.alloc w _).trans x1)
  go_wp2_with fail
  go_ret
  exact ⟨_, rfl, o2.mono X.size (Nat.le_refl _), X.trans x2⟩
set_option maxRecDepth 100000 in
theorem spec_TextTrimLeftFunc (s : ByteArray) (v : Value) (rs : List Int) (nt : Bool) (w : World) (hs : s.size ≤ 1099511627776) (h : Is w v rs) :
    Calls Tryd.prog 58 #[.string s, .agg #[v, .bool nt]] w (RetV (.string ⟨(tlB (holdsT rs nt) s.data.toList).toArray⟩) w) := by
  obtain ⟨a, c, rfl, _, _, _⟩ := h.raw
  go_enter Tryd.func58, Tryd.ntmps58
  go_wp2_with (go_at_call 79; refine (spec_trimLeft s _ rs nt _ hs (h.ext (Ext.alloc _ _))).mono ?_)
  rintro _ w1 ⟨rfl, x1⟩
  go_wp2_with fail
  go_ret
  exact ⟨rfl, (Ext.alloc _ _).trans x1⟩
set_option maxRecDepth 100000 in
theorem spec_TextTrimRightFunc (s : ByteArray) (v : Value) (rs : List Int) (nt : Bool) (w : World) (hs : s.size ≤ 1099511627776) (h : Is w v rs) :
    Calls Tryd.prog 63 #[.string s, .agg #[v, .bool nt]] w (RetV (.string ⟨(trB (holdsT rs nt) s.data.toList).toArray⟩) w) := by
  obtain ⟨a, c, rfl, _, _, _⟩ := h.raw
  go_enter Tryd.func63, Tryd.ntmps63
  go_wp2_with (go_at_call 82; refine (spec_trimRight s _ rs nt _ hs (h.ext (Ext.alloc _ _))).mono ?_)
  rintro _ w1 ⟨rfl, x1⟩
  go_wp2_with fail
  go_ret
  exact ⟨rfl, (Ext.alloc _ _).trans x1⟩
set_option maxRecDepth 100000 in
theorem spec_TextTrimFunc (s : ByteArray) (v : Value) (rs : List Int) (nt : Bool) (w : World) (hs : s.size ≤ 1099511627776) (h : Is w v rs) :
    Calls Tryd.prog 66 #[.string s, .agg #[v, .bool nt]] w (RetV (.string ⟨(tB (holdsT rs nt) s.data.toList).toArray⟩) w) := by
  obtain ⟨a, c, rfl, _, _, _⟩ := h.raw
  have hl1 : (⟨(tlB (holdsT rs nt) s.data.toList).toArray⟩ : ByteArray).size ≤ 1099511627776 := by
    have := tlB_len (holdsT rs nt) s.data.toList
    exact Nat.le_trans this hs
  go_enter Tryd.func66, Tryd.ntmps66
  go_wp2_with fail
  obtain ⟨n, hn⟩ : ∃ n, w.heap.size = n := ⟨_, rfl⟩
  have x0 : Ext w (w.alloc (.cells #[.slice a rs.length c, .bool nt] 29)) := Ext.alloc _ _
  have f0 : (w.alloc (.cells #[.slice a rs.length c, .bool nt] 29)).cell? ⟨n, 0, none⟩ = some (.slice a rs.length c) := by rw [← hn, World.cell?_alloc_mark]; rfl
  have f1 : (w.alloc (.cells #[.slice a rs.length c, .bool nt] 29)).cell? ⟨n, 1, none⟩ = some (.bool nt) := by rw [← hn, World.cell?_alloc_mark]; rfl
  obtain ⟨w0, hw0⟩ : ∃ w0, w.alloc (.cells #[.slice a rs.length c, .bool nt] 29) = w0 := ⟨_, rfl⟩
  rw [hw0] at x0 f0 f1 ⊢
  rw [hn]
  replace h := h.ext x0
  clear hn hw0
  go_region_held3 (fun w' => w'.cell? ⟨n, 0, none⟩ = some (.slice a rs.length c) ∧ w'.cell? ⟨n, 1, none⟩ = some (.bool nt))
    (first | exact ⟨f0, f1⟩ | exact ⟨x1.cell f0, x1.cell f1⟩ | exact ⟨x2.cell (x1.cell f0), x2.cell (x1.cell f1)⟩)
    (first
      | (go_at_call 79; refine (spec_trimLeft s _ rs nt _ hs (h.ext (Ext.drew _))).mono ?_; rintro _ w1 ⟨rfl, x1⟩)
      | (go_at_call 82; refine (spec_trimRight ⟨(tlB (holdsT rs nt) s.data.toList).toArray⟩ _ rs nt _ hl1 (h.ext ((Ext.drew _).trans x1))).mono ?_; rintro _ w2 ⟨rfl, x2⟩))
  all_goals
    go_wp2_with fail
    go_ret
    exact ⟨rfl, x0.trans ((Ext.drew _).trans (x1.trans x2))⟩
set_option maxRecDepth 100000 in
theorem spec_TrimLeftFunc (sv : Value) (l : List UInt8) (v : Value) (rs : List Int) (nt : Bool) (w : World) (hl : l.length ≤ 1099511627776) (hb : Bs w sv l) (h : Is w v rs) :
    Calls Tryd.prog 31 #[sv, .agg #[v, .bool nt]] w (RetOwn w (tlB (holdsT rs nt) l)) := by
  have hlen : (tlB (holdsT rs nt) l).length ≤ maxLen := by
    have e := tlB_len (holdsT rs nt) l
    unfold maxLen; omega
  obtain ⟨a, c, rfl, _, _, _⟩ := h.raw
  have hb2 := fun A => hb.ext (Ext.alloc w A)
  go_enter Tryd.func31, Tryd.ntmps31
  go_wp2_with (first | refine wpList_toString rfl 22 9 _ rfl 5 Tryd.underlying22 Tryd.underlying5 Tryd.underlying9 _ _ rfl (hb2 _) ?_ | (go_at_call 58; refine (spec_TextTrimLeftFunc ⟨l.toArray⟩ _ rs nt _ hl (h.ext (Ext.alloc _ _))).mono ?_))
  rintro _ w1 ⟨rfl, x1⟩
  have X := (Ext.alloc w _).trans x1
  clear x1
  go_wp2_with (refine wpList_toBytes rfl 9 22 _ rfl 5 Tryd.underlying9 Tryd.underlying22 Tryd.underlying5 _ rfl ?_ ?_)
  · exact hlen
  intro v3 w3 o3 x3
  go_wp2_with fail
  go_ret
  exact ⟨_, rfl, o3.mono X.size (Nat.le_refl _), X.trans x3⟩
set_option maxRecDepth 100000 in
theorem spec_TrimRightFunc (sv : Value) (l : List UInt8) (v : Value) (rs : List Int) (nt : Bool) (w : World) (hl : l.length ≤ 1099511627776) (hb : Bs w sv l) (h : Is w v rs) :
    Calls Tryd.prog 37 #[sv, .agg #[v, .bool nt]] w (RetOwn w (trB (holdsT rs nt) l)) := by
  have hlen : (trB (holdsT rs nt) l).length ≤ maxLen := by
    have e := trB_len (holdsT rs nt) l
    unfold maxLen; omega
  obtain ⟨a, c, rfl, _, _, _⟩ := h.raw
  have hb2 := fun A => hb.ext (Ext.alloc w A)
  go_enter Tryd.func37, Tryd.ntmps37
  go_wp2_with (first | refine wpList_toString rfl 22 9 _ rfl 5 Tryd.underlying22 Tryd.underlying5 Tryd.underlying9 _ _ rfl (hb2 _) ?_ | (go_at_call 63; refine (spec_TextTrimRightFunc ⟨l.toArray⟩ _ rs nt _ hl (h.ext (Ext.alloc _ _))).mono ?_))
  rintro _ w1 ⟨rfl, x1⟩
  have X := (Ext.alloc w _).trans x1
  clear x1
  go_wp2_with (refine wpList_toBytes rfl 9 22 _ rfl 5 Tryd.underlying9 Tryd.underlying22 Tryd.underlying5 _ rfl ?_ ?_)
  · exact hlen
  intro v3 w3 o3 x3
  go_wp2_with fail
  go_ret
  exact ⟨_, rfl, o3.mono X.size (Nat.le_refl _), X.trans x3⟩
set_option maxRecDepth 100000 in
theorem spec_TrimFunc (sv : Value) (l : List UInt8) (v : Value) (rs : List Int) (nt : Bool) (w : World) (hl : l.length ≤ 1099511627776) (hb : Bs w sv l) (h : Is w v rs) :
    Calls Tryd.prog 40 #[sv, .agg #[v, .bool nt]] w (RetOwn w (tB (holdsT rs nt) l)) := by
  have hlen : (tB (holdsT rs nt) l).length ≤ maxLen := by
    have e := tB_len (holdsT rs nt) l
    unfold maxLen; omega
  obtain ⟨a, c, rfl, _, _, _⟩ := h.raw
  have hb2 := fun A => hb.ext (Ext.alloc w A)
  go_enter Tryd.func40, Tryd.ntmps40
  go_wp2_with (first | refine wpList_toString rfl 22 9 _ rfl 5 Tryd.underlying22 Tryd.underlying5 Tryd.underlying9 _ _ rfl (hb2 _) ?_ | (go_at_call 66; refine (spec_TextTrimFunc ⟨l.toArray⟩ _ rs nt _ hl (h.ext (Ext.alloc _ _))).mono ?_))
  rintro _ w1 ⟨rfl, x1⟩
  have X := (Ext.alloc w _).trans x1
  clear x1
  go_wp2_with (refine wpList_toBytes rfl 9 22 _ rfl 5 Tryd.underlying9 Tryd.underlying22 Tryd.underlying5 _ rfl ?_ ?_)
  · exact hlen
  intro v3 w3 o3 x3
  go_wp2_with fail
  go_ret
  exact ⟨_, rfl, o3.mono X.size (Nat.le_refl _), X.trans x3⟩
end Go.Proofs.YtddakfdlgfadeaaDoor
