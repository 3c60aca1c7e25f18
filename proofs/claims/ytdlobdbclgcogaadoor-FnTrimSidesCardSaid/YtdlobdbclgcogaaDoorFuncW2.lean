/- The wrappers over the trims by a test: impl, spec. Printed by funcw2.py. -/
import Derived.Test.YtdlobdbclgcogaaDoorFunc2
import Derived.Test.YtdlobdbclgcogaaDoorFuncW
import Derived.Deep.RegionHeld3
namespace Go.Proofs.YtdlobdbclgcogaaDoor
open Go.RowKit

theorem glue_trimL_len (p : Int → Bool) (cs : List Ch) : (glue (trimL p cs)).length ≤ (glue cs).length := by
  unfold trimL
  induction cs with
  | nil => simp
  | cons c cs ih =>
    rw [List.dropWhile_cons]
    split
    · rw [glue_cons, List.length_append]; omega
    · exact Nat.le_refl _
theorem glue_append_len (a b : List Ch) : (glue (a ++ b)).length = (glue a).length + (glue b).length := by rw [glue_append, List.length_append]
theorem glue_trimR_len (p : Int → Bool) (cs : List Ch) : (glue (trimR p cs)).length ≤ (glue cs).length := by
  rcases lastC_range (fun r => !p r) cs 0 with ⟨_, hn⟩ | ⟨i, hi, _, hn, hp⟩
  · rw [trimR_none p cs (fun c hc => by have := hn c hc; simpa using this)]; simp [glue]
  · rw [trimR_at p cs i hi (fun c hc => by have := hn c hc; simpa using this) (by simpa using hp)]
    have e := List.take_append_drop (i + 1) cs
    have := glue_append_len (cs.take (i + 1)) (cs.drop (i + 1))
    rw [e] at this
    omega

def tlB (p : Int → Bool) (l : List UInt8) : List UInt8 := glue (trimL p (chunks l))
def trB (p : Int → Bool) (l : List UInt8) : List UInt8 := glue (trimR p (chunks l))
def tB (p : Int → Bool) (l : List UInt8) : List UInt8 := trB p (tlB p l)
theorem tlB_len (p : Int → Bool) (l : List UInt8) : (tlB p l).length ≤ l.length := by have := glue_trimL_len p (chunks l); rwa [glue_chunks] at this
theorem trB_len (p : Int → Bool) (l : List UInt8) : (trB p l).length ≤ l.length := by have := glue_trimR_len p (chunks l); rwa [glue_chunks] at this
theorem tB_len (p : Int → Bool) (l : List UInt8) : (tB p l).length ≤ l.length := Nat.le_trans (trB_len p _) (tlB_len p l)

set_option maxRecDepth 100000 in
theorem impl_TrimLeftFunc (sv : Value) (l : List UInt8) (v : Value) (rs : List Int) (nt : Bool) (w : World) (hb : Bs w sv l) (h : Is w v rs) (hT : Tabs w) (hl : l.length ≤ 140737488355328) :
    Calls Tryd.prog 36 #[sv, .agg #[v, .bool nt]] w (RetOwn w (tlB (holdsT rs nt) l)) := by
  have hr := Nat.le_trans (tlB_len (holdsT rs nt) l) hl
  obtain ⟨a, c, rfl, _, _, _⟩ := h.raw
  go_enter Tryd.func36, Tryd.ntmps36
  go_wp2_with (go_at_call 62; refine (bytes_TrimLeftFunc sv l _ rs nt _ (hb.ext (Ext.alloc _ _)) (h.ext (Ext.alloc _ _)) (hT.ext (Ext.alloc _ _))).mono ?_)
  rintro _ w1 ⟨v1, rfl, b1, x1⟩
  go_wp2_with (go_at_call 44; refine (impl_fresh v1 _ _ b1 hr).mono ?_)
  rintro _ w2 ⟨v2, rfl, o2, x2⟩
  have X := ((Ext.alloc w _).trans x1)
  go_wp2_with fail
  go_ret
  exact ⟨_, rfl, o2.mono X.size (Nat.le_refl _), X.trans x2⟩
set_option maxRecDepth 100000 in
theorem impl_TrimRightFunc (sv : Value) (l : List UInt8) (v : Value) (rs : List Int) (nt : Bool) (w : World) (hb : Bs w sv l) (h : Is w v rs) (hT : Tabs w) (hl : l.length ≤ 140737488355328) :
    Calls Tryd.prog 37 #[sv, .agg #[v, .bool nt]] w (RetOwn w (trB (holdsT rs nt) l)) := by
  have hr := Nat.le_trans (trB_len (holdsT rs nt) l) hl
  obtain ⟨a, c, rfl, _, _, _⟩ := h.raw
  go_enter Tryd.func37, Tryd.ntmps37
  go_wp2_with (go_at_call 63; refine (bytes_TrimRightFunc sv l _ rs nt _ (hb.ext (Ext.alloc _ _)) (h.ext (Ext.alloc _ _)) (hT.ext (Ext.alloc _ _))).mono ?_)
  rintro _ w1 ⟨v1, rfl, b1, x1⟩
  go_wp2_with (go_at_call 44; refine (impl_fresh v1 _ _ b1 hr).mono ?_)
  rintro _ w2 ⟨v2, rfl, o2, x2⟩
  have X := ((Ext.alloc w _).trans x1)
  go_wp2_with fail
  go_ret
  exact ⟨_, rfl, o2.mono X.size (Nat.le_refl _), X.trans x2⟩
set_option maxRecDepth 100000 in
theorem impl_TrimFunc (sv : Value) (l : List UInt8) (v : Value) (rs : List Int) (nt : Bool) (w : World) (hb : Bs w sv l) (h : Is w v rs) (hT : Tabs w) (hl : l.length ≤ 140737488355328) :
    Calls Tryd.prog 35 #[sv, .agg #[v, .bool nt]] w (RetOwn w (tB (holdsT rs nt) l)) := by
  have hr := Nat.le_trans (tB_len (holdsT rs nt) l) hl
  obtain ⟨a, c, rfl, _, _, _⟩ := h.raw
  go_enter Tryd.func35, Tryd.ntmps35
  go_wp2_with (go_at_call 61; refine (bytes_TrimFunc sv l _ rs nt _ (hb.ext (Ext.alloc _ _)) (h.ext (Ext.alloc _ _)) (hT.ext (Ext.alloc _ _))).mono ?_)
  rintro _ w1 ⟨v1, rfl, b1, x1⟩
  go_wp2_with (go_at_call 44; refine (impl_fresh v1 _ _ b1 hr).mono ?_)
  rintro _ w2 ⟨v2, rfl, o2, x2⟩
  have X := ((Ext.alloc w _).trans x1)
  go_wp2_with fail
  go_ret
  exact ⟨_, rfl, o2.mono X.size (Nat.le_refl _), X.trans x2⟩
end Go.Proofs.YtdlobdbclgcogaaDoor
