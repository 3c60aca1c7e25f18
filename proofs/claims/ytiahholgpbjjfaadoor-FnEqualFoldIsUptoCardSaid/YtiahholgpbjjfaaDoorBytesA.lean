/- Contracts of bytes.Equal, HasPrefix, HasSuffix, TrimPrefix, TrimSuffix, CutPrefix, CutSuffix, IndexByte, LastIndexByte and of the thin package's functions over them. Conditions: what the slices hold. -/
import Derived.Test.YtiahholgpbjjfaaDoorBase
import Derived.Test.YtiahholgpbjjfaaDoorPlain
import Derived.Test.YtiahholgpbjjfaaDoorSpecText
import Derived.Test.YtiahholgpbjjfaaDoorRows
namespace Go.Proofs.YtiahholgpbjjfaaDoor
open Go.RowKit

theorem info_u8' : (Tryd.prog.info? 5).map (fun i => (i.zero, i.size, i.bytes)) = some (some (.int .u8 0), 1, 1) := by kernel_rfl

/-- Both are the same; s begins with p; s ends with p. -/
def eqB (a b : List UInt8) : Bool := a == b
def hasPre (s p : List UInt8) : Bool := decide (s.take p.length = p)
def hasSuf (s p : List UInt8) : Bool := decide (s.drop (s.length - p.length) = p)

theorem eqB_true {a b : List UInt8} : eqB a b = true ↔ a = b := by simp [eqB]
theorem eqB_self (a : List UInt8) : eqB a a = true := by simp [eqB]
theorem hasPre_short {s p : List UInt8} (h : s.length < p.length) : hasPre s p = false := by
  unfold hasPre
  rw [decide_eq_false_iff_not]
  intro e
  have := congrArg List.length e
  simp at this
  omega
theorem hasSuf_short {s p : List UInt8} (h : s.length < p.length) : hasSuf s p = false := by
  unfold hasSuf
  rw [decide_eq_false_iff_not]
  intro e
  have := congrArg List.length e
  simp at this
  omega
theorem hasPre_le {s p : List UInt8} (h : hasPre s p = true) : p.length ≤ s.length := by
  rcases Nat.lt_or_ge s.length p.length with h' | h'
  · rw [hasPre_short h'] at h; cases h
  · exact h'
theorem hasSuf_le {s p : List UInt8} (h : hasSuf s p = true) : p.length ≤ s.length := by
  rcases Nat.lt_or_ge s.length p.length with h' | h'
  · rw [hasSuf_short h'] at h; cases h
  · exact h'

theorem bytes_Equal (v1 v2 : Value) (l1 l2 : List UInt8) (w : World) (h1 : Bs w v1 l1) (h2 : Bs w v2 l2) :
    Calls Tryd.prog 23 #[v1, v2] w fun e w' => e = .returned (.bool (eqB l1 l2)) ∧ w = w' := by
  go_enter Tryd.func23, Tryd.ntmps23
  go_wp2_with (first
    | refine wpList_toString rfl 25 9 (.tmp 5) rfl 5 Tryd.underlying25 Tryd.underlying5 Tryd.underlying9 _ _ rfl h1 ?_
    | refine wpList_toString rfl 25 9 (.tmp 7) rfl 5 Tryd.underlying25 Tryd.underlying5 Tryd.underlying9 _ _ rfl h2 ?_)
  go_ret
  exact ⟨rfl, rfl⟩



/-- A call's answer: a slice of the bytes l, somewhere. -/
def RetBs (w : World) (l : List UInt8) (e : Ending) (w' : World) : Prop := ∃ v, e = .returned v ∧ Bs w' v l ∧ Ext w w'
def RetBsB (w : World) (l : List UInt8) (b : Bool) (e : Ending) (w' : World) : Prop := ∃ v, e = .returned (.tuple #[v, .bool b]) ∧ Bs w' v l ∧ Ext w w'

def cutPre (s p : List UInt8) : List UInt8 := if hasPre s p then s.drop p.length else s
def cutSuf (s p : List UInt8) : List UInt8 := if hasSuf s p then s.take (s.length - p.length) else s





theorem impl_fresh (v : Value) (l : List UInt8) (w : World) (h : Bs w v l) (hl : l.length ≤ 140737488355328) :
    Calls Tryd.prog 20 #[v] w (RetOwn w l) := by
  have b0 := Buf.empty w.heap.size 5 w (Nat.le_refl _)
  have h' := h.ext (Ext.alloc w (.cells #[] 5))
  go_enter Tryd.func20, Tryd.ntmps20
  go_wp2_with (refine wpList_appendBs rfl 25 _ _ rfl 5 Tryd.underlying25 info_u8' w.heap.size _ [] rfl b0 _ l rfl h' (by simpa using hl) (by simp) ?_)
  intro v' w' b1 g1
  go_wp2_with fail
  go_ret
  have hb := b0.grown g1 (by simp) (W := w) (B' := w.heap.size) ((Below.refl _ _).alloc (Nat.le_refl _) _) (Nat.le_refl _)
  exact ⟨_, rfl, b1.own, ⟨hb⟩⟩
end Go.Proofs.YtiahholgpbjjfaaDoor
