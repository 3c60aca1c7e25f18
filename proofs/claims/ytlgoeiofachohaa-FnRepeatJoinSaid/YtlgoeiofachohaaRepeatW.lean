/- The walks of impl.Repeat (a deferred function that recovers) and laws.text1. -/
import Derived.Test.YtlgoeiofachohaaRepeat
namespace Go.Proofs.Ytlgoeiofachohaa
open Go.RowKit

/-- A call's answer: a new text, and that all went well. -/
def RetRep (w : World) (l : List UInt8) (e : Ending) (w' : World) : Prop := ∃ v, e = .returned (.tuple #[v, .bool true]) ∧ Bs w' v l ∧ Ext w w'

theorem repeat_idle (p q : Addr) (w : World) :
    CallsD Try.prog 43 #[.pointer (some p), .pointer (some q)] .returning w fun e u' w' => e = .returned (.tuple #[]) ∧ u' = .returning ∧ w' = w := by
  refine callsD_of_wpS Try.func43 rfl fun c₀ cs hu => ?_
  apply wpS_seq
  apply wpS_region
  simp [wpOpsS, go_sem, recoverD, hu, Try.ntmps43, Exit.thenS]
  refine wpS_cond (t := false) (by simp [Act.eval, Array.replicate]) ?_
  simp only [Bool.false_eq_true, if_false]
  refine wpS_of_wp (wp_skip ?_)
  cases c₀
  simp_all [bodyPostS, results, Try.results43]

set_option maxRecDepth 100000 in
set_option maxHeartbeats 2000000 in
theorem impl_Repeat_of (sv : Value) (C : Int) (R : List UInt8) (w : World) (hp : ∀ W, Ext w W → Calls Try.prog 44 #[sv, .int .i64 C] W (RetOwn W R)) (hrl : R.length ≤ 140737488355328) :
    Calls Try.prog 29 #[sv, .int .i64 C] w (RetRep w R) := by
  have hmf : ∀ (fn : Fn) (first cap : Array Value) (w : World), (Instr.makeFunc fn first cap).run Try.prog w = .ok (.func fn first cap) w := fun _ _ _ _ => rfl
  obtain ⟨B, hB⟩ : ∃ B, w.heap.size = B := ⟨_, rfl⟩
  have x0 : Ext w ((w.alloc (.cells #[.slice none 0 0] 22)).alloc (.cells #[.bool false] 4)) := (Ext.alloc _ _).trans (Ext.alloc _ _)
  have b1 : Boxed ((w.alloc (.cells #[.slice none 0 0] 22)).alloc (.cells #[.bool false] 4)) B 22 (.slice none 0 0) := by
    have := (Boxed.new w 22 (.slice none 0 0)).alloc (.cells #[.bool false] 4)
    rwa [hB] at this
  have b2 : Boxed ((w.alloc (.cells #[.slice none 0 0] 22)).alloc (.cells #[.bool false] 4)) (B + 1) 4 (.bool false) := by
    have := Boxed.new (w.alloc (.cells #[.slice none 0 0] 22)) 4 (.bool false)
    rwa [World.size_alloc, hB] at this
  have cR := hp _ x0
  go_enter_defers Try.func29, Try.ntmps29
  go_wp2_with (go_at_call 44; refine cR.mono ?_)
  rintro _ w1 ⟨v1, rfl, o1, x1⟩
  go_wp2_with (go_at_call 37; refine (impl_fresh _ _ _ o1.bs hrl).mono ?_)
  rintro _ w2 ⟨v2, rfl, o2, x2⟩
  have X := x0.trans (x1.trans x2)
  have hB2 : B + 2 ≤ w1.heap.size := by have := x1.size; rw [World.size_alloc, World.size_alloc, hB] at this; exact this
  have HO2 := Lib.hid o2
  replace b1 := boxed_ext b1 (x1.trans x2)
  replace b2 := boxed_ext b2 (x1.trans x2)
  have q2 := o2.bs
  obtain ⟨a2, c2, e2, _⟩ := q2.shape
  subst e2
  have c1 := b1.cell
  have f1 := b1.frozen
  have b2' := b2.other (B' := B) (by omega) (.slice a2 R.length c2)
  have c2' := b2'.cell
  have f2' := b2'.frozen
  have b1' := (b1.set (.slice a2 R.length c2)).other (B' := B + 1) (by omega) (.bool true)
  have b2'' := b2'.set (.bool true)
  have HB1 := Lib.hid b1'
  have HB2 := Lib.hid b2''
  have HX := Lib.hid X
  clear x0 x1 x2 o1 o2 cR b1' b2'' b1 b2 b2' X q2
  go_wp2_with fail
  have d1 := HB1.out.cell
  have d2 := HB2.out.cell
  refine leaves_cons (f := 43) (args := #[.pointer (some ⟨B, 0, none⟩), .pointer (some ⟨B + 1, 0, none⟩)]) (by simp) (by simp [go_sem]) ?_
  refine (repeat_idle _ _ _).mono ?_
  rintro e u' w'' ⟨rfl, rfl, rfl⟩
  simp [Leaves, settle, results, Try.results29, go_sem, d1, d2]
  have hfr : Fr B (B + 2) w2 ((w2.setCell ⟨B, 0, none⟩ (.slice a2 R.length c2)).setCell ⟨B + 1, 0, none⟩ (.bool true)) := (Fr.setCell (by simp) (by simp) _).trans (Fr.setCell (by simp) (by simp) _)
  exact ⟨_, rfl, (HO2.out.fr hfr (.inr hB2)).bs, ⟨below_fr HX.out.below hfr (.inl (by omega)) HX.out.size⟩⟩

theorem impl_Repeat (sv : Value) (l : List UInt8) (c : Nat) (w : World) (hb : Bs w sv l) (hc : c ≤ 9223372036854775807) (hl : l.length ≤ 1099511627776) (hn : c * l.length ≤ 1099511627776) :
    Calls Try.prog 29 #[sv, .int .i64 (c : Int)] w (RetRep w (repL l c)) :=
  impl_Repeat_of sv c _ w (fun W x => bytes_Repeat sv l c W (hb.ext x) hc hl hn) (by rw [repL_length]; omega)

set_option maxRecDepth 100000 in
theorem laws_text1 (v : Value) (l : List UInt8) (ok : Bool) (w : World) (h : Bs w v l) :
    Calls Try.prog 28 #[v, .bool ok] w (fun e w' => e = .returned (.tuple #[.string ⟨l.toArray⟩, .bool ok]) ∧ w' = w) := by
  go_enter Try.func28, Try.ntmps28
  go_wp2_with (refine wpList_toString rfl 22 9 _ rfl 5 Try.underlying22 Try.underlying5 Try.underlying9 _ _ rfl h ?_)
  go_ret2
  exact ⟨rfl, rfl⟩
end Go.Proofs.Ytlgoeiofachohaa
