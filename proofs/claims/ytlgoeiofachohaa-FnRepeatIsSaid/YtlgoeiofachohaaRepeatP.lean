/- Where bytes.Repeat panics: the thin package says so. The reference model's Repeat. -/
import Derived.Test.YtlgoeiofachohaaRepeatW
import Derived.Test.YtlgoeiofachohaaGlued
import Derived.Deep.DeepCutAuto
namespace Go.Proofs.Ytlgoeiofachohaa
open Go.RowKit

/-- A call's end: a panic with a text. -/
def Panics (w : World) (e : Ending) (w' : World) : Prop := ∃ t, e = .panicked [{ v := .iface 9 (.string t), recovered := false }] ∧ w' = w

theorem repeat_panicking (p q : Addr) (u : TypeId) (pv : Value) (older : List PanicEntry) (w : World) (x : Value) (y : Value) (hc : w.cell? p = some x) (hz : w.frozen? p = false) (hc2 : (w.setCell p (.slice none 0 0)).cell? q = some y) (hz2 : (w.setCell p (.slice none 0 0)).frozen? q = false) :
    CallsD Try.prog 43 #[.pointer (some p), .pointer (some q)] (.panicking ({ v := .iface u pv, recovered := false } :: older)) w fun e u' w' =>
      e = .returned (.tuple #[]) ∧ u' = .panicking ({ v := .iface u pv, recovered := true } :: older) ∧ w' = (w.setCell p (.slice none 0 0)).setCell q (.bool false) := by
  refine callsD_of_wpS Try.func43 rfl fun c₀ cs hu => ?_
  apply wpS_seq
  apply wpS_region
  simp [wpOpsS, go_sem, recoverD, hu, Try.ntmps43, Exit.thenS]
  refine wpS_cond (t := true) (by simp [Act.eval, Array.replicate]) ?_
  simp only [if_true]
  apply wpS_seq
  apply wpS_region
  simp [wpOpsS, go_sem, hc, hz, Exit.thenS]
  apply wpS_region
  simp [wpOpsS, go_sem, hc2, hz2, bodyPostS, results, Try.results43]

set_option maxRecDepth 100000 in
theorem bytes_Repeat_neg (sv : Value) (l : List UInt8) (c : Int) (w : World) (hb : Bs w sv l) (hc : c < 0) :
    Calls Try.prog 44 #[sv, .int .i64 c] w (Panics w) := by
  obtain ⟨sa, sc, hsv, hcap, hcm⟩ := hb.shape
  subst hsv
  have hz1 : (c == 0) = false := by simp; omega
  go_enter Try.func44, Try.ntmps44
  go_wp2_with fail
  exact ⟨rfl, _, rfl, rfl⟩

set_option maxRecDepth 100000 in
theorem bytes_Repeat_big (sv : Value) (l : List UInt8) (c : Nat) (w : World) (hb : Bs w sv l) (hc : c ≤ 9223372036854775807) (hl : l.length ≤ 9223372036854775807) (hn : 9223372036854775807 < c * l.length) :
    Calls Try.prog 44 #[sv, .int .i64 (c : Int)] w (Panics w) := by
  obtain ⟨sa, sc, hsv, hcap, hcm⟩ := hb.shape
  subst hsv
  have hc0 : c ≠ 0 := by rintro rfl; simp at hn
  have hz1 : ((c : Int) == 0) = false := by simp; omega
  have hc9 : ¬ (c : Int) < 0 := by omega
  have cM := bits_Mul l.length c (by omega) (by omega) w
  rw [Nat.mul_comm l.length c] at cM
  obtain ⟨n, hnn⟩ : ∃ n, c * l.length = n := ⟨_, rfl⟩
  rw [hnn] at cM hn
  by_cases h64 : n < 18446744073709551616
  · rw [Nat.div_eq_of_lt h64, Nat.mod_eq_of_lt h64] at cM
    have hn9 : (9223372036854775807 : Int) < (n : Int) := by omega
    clear hnn
    go_enter Try.func44, Try.ntmps44
    go_wp2_with (go_at_call 52; refine cM.mono ?_; rintro _ w1 ⟨rfl, e1⟩; subst w1)
    exact ⟨rfl, _, rfl, rfl⟩
  · have hh : 0 < n / 18446744073709551616 := Nat.div_pos (by omega) (by omega)
    obtain ⟨hi, hhi⟩ : ∃ hi, n / 18446744073709551616 = hi := ⟨_, rfl⟩
    obtain ⟨lo, hlo⟩ : ∃ lo, n % 18446744073709551616 = lo := ⟨_, rfl⟩
    rw [hhi] at hh
    rw [hhi, hlo] at cM
    have hhI : (0 : Int) < (hi : Int) := by omega
    clear hnn hhi hlo
    go_enter Try.func44, Try.ntmps44
    go_wp2_with (go_at_call 52; refine cM.mono ?_; rintro _ w1 ⟨rfl, e1⟩; subst w1)
    exact ⟨rfl, _, rfl, rfl⟩

/-- A call's answer: nothing, and that it was refused. -/
def RetNo (w : World) (e : Ending) (w' : World) : Prop := e = .returned (.tuple #[.slice none 0 0, .bool false]) ∧ Ext w w'

set_option maxRecDepth 100000 in
set_option maxHeartbeats 2000000 in
theorem impl_Repeat_no (sv : Value) (c : Int) (w : World) (hp : ∀ W, Ext w W → Calls Try.prog 44 #[sv, .int .i64 c] W (Panics W)) :
    Calls Try.prog 29 #[sv, .int .i64 c] w (RetNo w) := by
  have hmf : ∀ (fn : Fn) (first cap : Array Value) (w : World), (Instr.makeFunc fn first cap).run Try.prog w = .ok (.func fn first cap) w := fun _ _ _ _ => rfl
  obtain ⟨B, hB⟩ : ∃ B, w.heap.size = B := ⟨_, rfl⟩
  have x0 : Ext w ((w.alloc (.cells #[.slice none 0 0] 22)).alloc (.cells #[.bool false] 4)) := (Ext.alloc _ _).trans (Ext.alloc _ _)
  have b1 : Boxed ((w.alloc (.cells #[.slice none 0 0] 22)).alloc (.cells #[.bool false] 4)) B 22 (.slice none 0 0) := by
    have := (Boxed.new w 22 (.slice none 0 0)).alloc (.cells #[.bool false] 4)
    rwa [hB] at this
  have b2 : Boxed ((w.alloc (.cells #[.slice none 0 0] 22)).alloc (.cells #[.bool false] 4)) (B + 1) 4 (.bool false) := by
    have := Boxed.new (w.alloc (.cells #[.slice none 0 0] 22)) 4 (.bool false)
    rwa [World.size_alloc, hB] at this
  have cR := hp _ x0
  have b2' := b2.other (B' := B) (by omega) (.slice none 0 0)
  have b1' := (b1.set (.slice none 0 0)).other (B' := B + 1) (by omega) (.bool false)
  have b2'' := b2'.set (.bool false)
  go_enter_defers Try.func29, Try.ntmps29
  go_wp2_with (go_at_call 44; refine cR.mono ?_)
  rintro _ w1 ⟨t, rfl, e1⟩
  subst w1
  go_wp2_with fail
  refine leaves_cons (f := 43) (args := #[.pointer (some ⟨B, 0, none⟩), .pointer (some ⟨B + 1, 0, none⟩)]) (by simp) (by simp [go_sem]) ?_
  refine (repeat_panicking ⟨B, 0, none⟩ ⟨B + 1, 0, none⟩ 9 _ [] _ _ _ b1.cell b1.frozen b2'.cell b2'.frozen).mono ?_
  rintro e u' w'' ⟨rfl, rfl, rfl⟩
  have d1 := b1'.cell
  have d2 := b2''.cell
  simp [Leaves, settle, results, Try.results29, go_sem, d1, d2]
  have hfr : Fr B (B + 2) ((w.alloc (.cells #[.slice none 0 0] 22)).alloc (.cells #[.bool false] 4)) ((((w.alloc (.cells #[.slice none 0 0] 22)).alloc (.cells #[.bool false] 4)).setCell ⟨B, 0, none⟩ (.slice none 0 0)).setCell ⟨B + 1, 0, none⟩ (.bool false)) := (Fr.setCell (by simp) (by simp) _).trans (Fr.setCell (by simp) (by simp) _)
  exact ⟨rfl, ⟨below_fr x0.below hfr (.inl (by omega)) x0.size⟩⟩

set_option maxRecDepth 100000 in
set_option maxHeartbeats 1000000 in
theorem spec_repeated (s : ByteArray) (c : Nat) (w : World) (hc : c ≤ 1099511627776) (hn : c * s.size ≤ 1099511627776) :
    Calls Try.prog 53 #[.string s, .int .i64 (c : Int)] w (RetV (.string ⟨(repL s.data.toList c).toArray⟩) w) := by
  have g0 := Buf.empty w.heap.size 5 w (Nat.le_refl _)
  have x0 : Ext w (w.alloc (.cells #[] 5)) := Ext.alloc _ _
  have HL := Lib.hid (show ∀ j, (repL s.data.toList j).length = j * s.size from fun j => repL_length _ _)
  go_enter Try.func53, Try.ntmps53
  go_wp2_with fail
  go_loopg [5, 6] c (fun k o i wr => ∃ j : Nat, j + k = c ∧ i = .int .i64 j ∧ Buf w.heap.size 5 wr o (repL s.data.toList j) ∧ Ext w wr)
  case atStart => exact ⟨0, by omega, rfl, g0, x0⟩
  case round =>
    obtain ⟨j, hj, rfl, hgr, hx⟩ := hrel
    clear g0 x0
    have HJ := Lib.hid hj
    have HG := Lib.hid hgr
    have HX := Lib.hid hx
    have hsz := hx.size
    by_cases hlt : j < c
    · have hg : 0 < gk := by omega
      have hlen : (repL s.data.toList j).length + s.size ≤ 140737488355328 := by
        rw [HL.out]
        have h1 : (j + 1) * s.size ≤ c * s.size := Nat.mul_le_mul_right _ (by omega)
        rw [Nat.add_mul, Nat.one_mul] at h1
        omega
      clear hj hgr hx
      go_wp2_with (refine wpList_appendStr rfl 22 9 _ _ rfl 5 Try.underlying22 Try.underlying9 info_u8' w.heap.size _ _ rfl HG.out _ rfl hlen hsz ?_)
      intro v3 w3 h3 g3
      have B3 := HG.out.grown g3 hsz HX.out.below (Nat.le_refl _)
      have H3 := Lib.hid h3
      have HB3 := Lib.hid B3
      clear B3 h3 g3
      go_wp2_with fail
      go_roundg (gk - 1)
      case measure => omega
      case rel =>
        refine ⟨j + 1, by have := HJ.out; omega, by go_num, ?_, ⟨HB3.out⟩⟩
        rw [repL_add, repL_one]
        exact H3.out
    · have hje : j = c := by omega
      have hb := hgr.own.bs
      rw [hje] at hb
      clear hj hgr
      go_wp2_with (refine wpList_toString rfl 22 9 _ rfl 5 Try.underlying22 Try.underlying5 Try.underlying9 _ _ rfl hb ?_)
      go_ret
      exact ⟨rfl, hx⟩

set_option maxRecDepth 100000 in
theorem spec_TextRepeat (s : ByteArray) (c : Nat) (w : World) (hc : c ≤ 1099511627776) (hn : c * s.size ≤ 1099511627776) :
    Calls Try.prog 45 #[.string s, .int .i64 (c : Int)] w (RetV (.string ⟨(repL s.data.toList c).toArray⟩) w) := by
  go_enter Try.func45, Try.ntmps45
  go_wp2_with (go_at_call 53; refine (spec_repeated s c w hc hn).mono ?_)
  rintro _ w1 ⟨rfl, x1⟩
  go_wp2_with fail
  go_ret
  exact ⟨rfl, x1⟩

set_option maxRecDepth 100000 in
theorem spec_Repeat (v : Value) (l : List UInt8) (c : Nat) (w : World) (h : Bs w v l) (hc : c ≤ 1099511627776) (hn : c * l.length ≤ 1099511627776) :
    Calls Try.prog 30 #[v, .int .i64 (c : Int)] w (RetOwn w (repL l c)) := by
  have hm : (⟨(repL l c).toArray⟩ : ByteArray).size ≤ maxLen := by show (repL l c).length ≤ _; rw [repL_length]; unfold maxLen; omega
  have cT := spec_TextRepeat ⟨l.toArray⟩ c w hc hn
  go_enter Try.func30, Try.ntmps30
  go_wp2_with (first | refine wpList_toString rfl 22 9 _ rfl 5 Try.underlying22 Try.underlying5 Try.underlying9 _ _ rfl h ?_ | (go_at_call 45; refine cT.mono ?_))
  rintro _ w1 ⟨rfl, x1⟩
  go_wp2_with (refine wpList_toBytes rfl 9 22 _ rfl 5 Try.underlying9 Try.underlying22 Try.underlying5 _ rfl hm ?_)
  intro v2 w2 o2 x2
  go_wp2_with fail
  go_ret
  exact ⟨_, rfl, o2.mono x1.size (Nat.le_refl _), x1.trans x2⟩
end Go.Proofs.Ytlgoeiofachohaa
