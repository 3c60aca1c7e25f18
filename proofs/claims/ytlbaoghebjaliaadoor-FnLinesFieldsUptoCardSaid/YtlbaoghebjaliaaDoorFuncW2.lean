/- The wrappers over the trims by a test: impl, spec. Printed by funcw2.py. -/
import Derived.Test.YtlbaoghebjaliaaDoorFunc2
import Derived.Test.YtlbaoghebjaliaaDoorFuncW
import Derived.Deep.RegionHeld3
namespace Go.Proofs.YtlbaoghebjaliaaDoor
open Go.RowKit

theorem glue_trimL_len (p : Int → Bool) (cs : List Ch) : (glue (trimL p cs)).length ≤ (glue cs).length := by
  unfold trimL
  induction cs with
  | nil => simp
  | cons c cs ih =>
    rw [List.dropWhile_cons]
    split
    · rw [glue_cons, List.length_append]; omega
    · exact Nat.le_refl _
theorem glue_append_len (a b : List Ch) : (glue (a ++ b)).length = (glue a).length + (glue b).length := by rw [glue_append, List.length_append]
theorem glue_trimR_len (p : Int → Bool) (cs : List Ch) : (glue (trimR p cs)).length ≤ (glue cs).length := by
  rcases lastC_range (fun r => !p r) cs 0 with ⟨_, hn⟩ | ⟨i, hi, _, hn, hp⟩
  · rw [trimR_none p cs (fun c hc => by have := hn c hc; simpa using this)]; simp [glue]
  · rw [trimR_at p cs i hi (fun c hc => by have := hn c hc; simpa using this) (by simpa using hp)]
    have e := List.take_append_drop (i + 1) cs
    have := glue_append_len (cs.take (i + 1)) (cs.drop (i + 1))
    rw [e] at this
    omega

def tlB (p : Int → Bool) (l : List UInt8) : List UInt8 := glue (trimL p (chunks l))
def trB (p : Int → Bool) (l : List UInt8) : List UInt8 := glue (trimR p (chunks l))
def tB (p : Int → Bool) (l : List UInt8) : List UInt8 := trB p (tlB p l)
theorem tlB_len (p : Int → Bool) (l : List UInt8) : (tlB p l).length ≤ l.length := by have := glue_trimL_len p (chunks l); rwa [glue_chunks] at this
theorem trB_len (p : Int → Bool) (l : List UInt8) : (trB p l).length ≤ l.length := by have := glue_trimR_len p (chunks l); rwa [glue_chunks] at this
theorem tB_len (p : Int → Bool) (l : List UInt8) : (tB p l).length ≤ l.length := Nat.le_trans (trB_len p _) (tlB_len p l)

set_option maxRecDepth 100000 in
theorem impl_TrimFunc (sv : Value) (l : List UInt8) (v : Value) (rs : List Int) (nt : Bool) (w : World) (hb : Bs w sv l) (h : Is w v rs) (hT : Tabs w) (hl : l.length ≤ 140737488355328) :
    Calls Tryd.prog 21 #[sv, .agg #[v, .bool nt]] w (RetOwn w (tB (holdsT rs nt) l)) := by
  have hr := Nat.le_trans (tB_len (holdsT rs nt) l) hl
  obtain ⟨a, c, rfl, _, _, _⟩ := h.raw
  go_enter Tryd.func21, Tryd.ntmps21
  go_wp2_with (go_at_call 56; refine (bytes_TrimFunc sv l _ rs nt _ (hb.ext (Ext.alloc _ _)) (h.ext (Ext.alloc _ _)) (hT.ext (Ext.alloc _ _))).mono ?_)
  rintro _ w1 ⟨v1, rfl, b1, x1⟩
  go_wp2_with (go_at_call 55; refine (impl_fresh v1 _ _ b1 hr).mono ?_)
  rintro _ w2 ⟨v2, rfl, o2, x2⟩
  have X := ((Ext.alloc w _).trans x1)
  go_wp2_with fail
  go_ret
  exact ⟨_, rfl, o2.mono X.size (Nat.le_refl _), X.trans x2⟩
set_option maxRecDepth 100000 in
theorem spec_TextTrimFunc (s : ByteArray) (v : Value) (rs : List Int) (nt : Bool) (w : World) (hs : s.size ≤ 1099511627776) (h : Is w v rs) :
    Calls Tryd.prog 57 #[.string s, .agg #[v, .bool nt]] w (RetV (.string ⟨(tB (holdsT rs nt) s.data.toList).toArray⟩) w) := by
  obtain ⟨a, c, rfl, _, _, _⟩ := h.raw
  have hl1 : (⟨(tlB (holdsT rs nt) s.data.toList).toArray⟩ : ByteArray).size ≤ 1099511627776 := by
    have := tlB_len (holdsT rs nt) s.data.toList
    exact Nat.le_trans this hs
  go_enter Tryd.func57, Tryd.ntmps57
  go_wp2_with fail
  obtain ⟨n, hn⟩ : ∃ n, w.heap.size = n := ⟨_, rfl⟩
  have x0 : Ext w (w.alloc (.cells #[.slice a rs.length c, .bool nt] 24)) := Ext.alloc _ _
  have f0 : (w.alloc (.cells #[.slice a rs.length c, .bool nt] 24)).cell? ⟨n, 0, none⟩ = some (.slice a rs.length c) := by rw [← hn, World.cell?_alloc_mark]; rfl
  have f1 : (w.alloc (.cells #[.slice a rs.length c, .bool nt] 24)).cell? ⟨n, 1, none⟩ = some (.bool nt) := by rw [← hn, World.cell?_alloc_mark]; rfl
  obtain ⟨w0, hw0⟩ : ∃ w0, w.alloc (.cells #[.slice a rs.length c, .bool nt] 24) = w0 := ⟨_, rfl⟩
  rw [hw0] at x0 f0 f1 ⊢
  rw [hn]
  replace h := h.ext x0
  clear hn hw0
  go_region_held3 (fun w' => w'.cell? ⟨n, 0, none⟩ = some (.slice a rs.length c) ∧ w'.cell? ⟨n, 1, none⟩ = some (.bool nt))
    (first | exact ⟨f0, f1⟩ | exact ⟨x1.cell f0, x1.cell f1⟩ | exact ⟨x2.cell (x1.cell f0), x2.cell (x1.cell f1)⟩)
    (first
      | (go_at_call 85; refine (spec_trimLeft s _ rs nt _ hs (h.ext (Ext.drew _))).mono ?_; rintro _ w1 ⟨rfl, x1⟩)
      | (go_at_call 84; refine (spec_trimRight ⟨(tlB (holdsT rs nt) s.data.toList).toArray⟩ _ rs nt _ hl1 (h.ext ((Ext.drew _).trans x1))).mono ?_; rintro _ w2 ⟨rfl, x2⟩))
  all_goals
    go_wp2_with fail
    go_ret
    exact ⟨rfl, x0.trans ((Ext.drew _).trans (x1.trans x2))⟩
set_option maxRecDepth 100000 in
theorem spec_TrimFunc (sv : Value) (l : List UInt8) (v : Value) (rs : List Int) (nt : Bool) (w : World) (hl : l.length ≤ 1099511627776) (hb : Bs w sv l) (h : Is w v rs) :
    Calls Tryd.prog 23 #[sv, .agg #[v, .bool nt]] w (RetOwn w (tB (holdsT rs nt) l)) := by
  have hlen : (tB (holdsT rs nt) l).length ≤ maxLen := by
    have e := tB_len (holdsT rs nt) l
    unfold maxLen; omega
  obtain ⟨a, c, rfl, _, _, _⟩ := h.raw
  have hb2 := fun A => hb.ext (Ext.alloc w A)
  go_enter Tryd.func23, Tryd.ntmps23
  go_wp2_with (first | refine wpList_toString rfl 30 9 _ rfl 5 Tryd.underlying30 Tryd.underlying5 Tryd.underlying9 _ _ rfl (hb2 _) ?_ | (go_at_call 57; refine (spec_TextTrimFunc ⟨l.toArray⟩ _ rs nt _ hl (h.ext (Ext.alloc _ _))).mono ?_))
  rintro _ w1 ⟨rfl, x1⟩
  have X := (Ext.alloc w _).trans x1
  clear x1
  go_wp2_with (refine wpList_toBytes rfl 9 30 _ rfl 5 Tryd.underlying9 Tryd.underlying30 Tryd.underlying5 _ rfl ?_ ?_)
  · exact hlen
  intro v3 w3 o3 x3
  go_wp2_with fail
  go_ret
  exact ⟨_, rfl, o3.mono X.size (Nat.le_refl _), X.trans x3⟩
end Go.Proofs.YtlbaoghebjaliaaDoor
