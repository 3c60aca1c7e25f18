/- The walk of the law FnRepeatIs. -/
import Derived.Test.YtlgoeiofachohaaRepeatP
import Derived.Deep.DeepCutAuto
namespace Go.Proofs.Ytlgoeiofachohaa
open Go.RowKit

set_option maxRecDepth 100000 in
theorem bytes_Repeat_zero (sv : Value) (l : List UInt8) (w : World) (_hb : Bs w sv l) :
    Calls Try.prog 44 #[sv, .int .i64 0] w (RetOwn w []) := by
  have b0 := Buf.empty w.heap.size 5 w (Nat.le_refl _)
  go_enter Try.func44, Try.ntmps44
  go_wp2_with fail
  go_ret
  exact ⟨_, rfl, b0.own, Ext.alloc _ _⟩

set_option maxRecDepth 100000 in
set_option maxHeartbeats 16000000 in
theorem FnRepeatIs_walk0 (w : World) (a0 : ByteArray) (z0 : a0.size ≤ 140737488351232) (C : Int) (zc : -9223372036854775808 ≤ C ∧ C ≤ 9223372036854775807) :
    Calls Try.prog 8 #[.string a0, .int .i64 C] w fun e w' => e = .returned (.bool true) ∧ Below w.heap.size w w' := by
  have hmax : a0.size ≤ maxLen := by unfold maxLen; omega
  have es : a0.data.toList.length = a0.size := rfl
  have hT : ∀ W, Calls Try.prog 28 #[.slice none 0 0, .bool false] W (fun e w' => e = .returned (.tuple #[.string ⟨#[]⟩, .bool false]) ∧ w' = W) := fun W => laws_text1 _ [] false W (Bs.nil W)
  have hemp : (⟨#[]⟩ : ByteArray).toList.isEmpty = true := by rw [ByteArray.toList_eq]; rfl
  by_cases hneg : C < 0
  · have hnp : ¬ 0 < C := by omega
    go_enter Try.func8, Try.ntmps8
    go_wp2_with (refine wpList_toBytes rfl 9 22 _ rfl 5 Try.underlying9 Try.underlying22 Try.underlying5 _ rfl hmax ?_)
    intro v1 w1 o1 X
    have c2 := impl_Repeat_no v1 C w1 (fun W x => bytes_Repeat_neg _ _ C W (o1.bs.ext x) hneg)
    go_wp2_with (go_at_call 29; refine c2.mono ?_)
    rintro _ w2 ⟨rfl, x2⟩
    replace X := X.trans x2
    clear x2 c2 o1
    go_wp2_with (go_at_call 28; refine (hT _).mono ?_; rintro _ w3 ⟨rfl, e3⟩; subst w3)
    go_ret
    exact ⟨by simp, X.below⟩
  obtain ⟨c, rfl⟩ := Int.eq_ofNat_of_zero_le (show 0 ≤ C by omega)
  by_cases hL : a0.size = 0
  · have hl0 : a0.data.toList = [] := List.eq_nil_of_length_eq_zero hL
    have hemp0 : a0.toList.isEmpty = true := by rw [ByteArray.toList_eq, hl0]; rfl
    have hLI : (a0.size : Int) = 0 := by omega
    have hLp : ¬ (0 : Int) < (a0.size : Int) := by omega
    have cT : ∀ v W, Bs W v [] → Calls Try.prog 28 #[v, .bool true] W (fun e w' => e = .returned (.tuple #[.string ⟨#[]⟩, .bool true]) ∧ w' = W) := fun v W h => laws_text1 v [] true W h
    have HL0 := Lib.hid hl0
    clear hl0 es hL hLI
    by_cases hcp : 0 < c
    · have hcpI : (0 : Int) < (c : Int) := by omega
      go_enter Try.func8, Try.ntmps8
      go_wp2_with (refine wpList_toBytes rfl 9 22 _ rfl 5 Try.underlying9 Try.underlying22 Try.underlying5 _ rfl hmax ?_)
      intro v1 w1 o1 X
      have q1 : Bs w1 v1 [] := HL0.out ▸ o1.bs
      have c2 := impl_Repeat _ _ c _ q1 (by omega) (by simp) (by simp)
      rw [repL_nil] at c2
      clear o1
      go_wp2_with (go_at_call 29; refine c2.mono ?_)
      rintro _ w2 ⟨v2, rfl, q2, x2⟩
      replace X := X.trans x2
      clear x2 c2 q1
      go_wp2_with (go_at_call 28; refine (cT _ _ q2).mono ?_; rintro _ w3 ⟨rfl, e3⟩; subst w3)
      go_ret
      exact ⟨by simp, X.below⟩
    · obtain rfl : c = 0 := by omega
      go_enter Try.func8, Try.ntmps8
      go_wp2_with (refine wpList_toBytes rfl 9 22 _ rfl 5 Try.underlying9 Try.underlying22 Try.underlying5 _ rfl hmax ?_)
      intro v1 w1 o1 X
      have q1 : Bs w1 v1 [] := HL0.out ▸ o1.bs
      have c2 := impl_Repeat _ _ 0 _ q1 (by omega) (by simp) (by simp)
      rw [repL_nil] at c2
      clear o1
      go_wp2_with (go_at_call 29; refine c2.mono ?_)
      rintro _ w2 ⟨v2, rfl, q2, x2⟩
      replace X := X.trans x2
      clear x2 c2 q1
      go_wp2_with (go_at_call 28; refine (cT _ _ q2).mono ?_; rintro _ w3 ⟨rfl, e3⟩; subst w3)
      go_ret
      exact ⟨by simp, X.below⟩
  have hLp : 0 < a0.size := by omega
  have hLpI : (0 : Int) < (a0.size : Int) := by omega
  have hLz : ((a0.size : Int) == 0) = false := by rw [beq_eq_false_iff_ne]; omega
  have hne0 : a0.toList.isEmpty = false := by
    rw [ByteArray.toList_eq]
    cases h : a0.data.toList with
    | nil => rw [h] at es; simp at es; omega
    | cons x y => rfl
  obtain ⟨q, hq⟩ : ∃ q, 9223372036854775807 / a0.size = q := ⟨_, rfl⟩
  obtain ⟨m, hm⟩ : ∃ m, 16777216 / a0.size = m := ⟨_, rfl⟩
  have hqI : (9223372036854775807 : Int).tdiv (a0.size : Int) = (q : Int) := by rw [show (9223372036854775807 : Int) = ((9223372036854775807 : Nat) : Int) from rfl, ← Int.ofNat_tdiv, hq]
  have hmI : (16777216 : Int).tdiv (a0.size : Int) = (m : Int) := by rw [show (16777216 : Int) = ((16777216 : Nat) : Int) from rfl, ← Int.ofNat_tdiv, hm]
  have hq9 : q ≤ 9223372036854775807 := by rw [← hq]; exact Nat.div_le_self _ _
  have hm9 : m ≤ 16777216 := by rw [← hm]; exact Nat.div_le_self _ _
  by_cases hbig : q < c
  · have hov : 9223372036854775807 < c * a0.size := by
      rw [← hq] at hbig
      exact (Nat.div_lt_iff_lt_mul hLp).1 hbig
    have hcpI : (0 : Int) < (c : Int) := by omega
    have hbI : (q : Int) < (c : Int) := by omega
    clear hq hm
    go_enter Try.func8, Try.ntmps8
    go_wp2_with (refine wpList_toBytes rfl 9 22 _ rfl 5 Try.underlying9 Try.underlying22 Try.underlying5 _ rfl hmax ?_)
    intro v1 w1 o1 X
    have c2 := impl_Repeat_no v1 c w1 (fun W x => bytes_Repeat_big _ _ c W (o1.bs.ext x) (by omega) (by show a0.size ≤ _; omega) hov)
    go_wp2_with (go_at_call 29; refine c2.mono ?_)
    rintro _ w2 ⟨rfl, x2⟩
    replace X := X.trans x2
    clear x2 c2 o1
    go_wp2_with (go_at_call 28; refine (hT _).mono ?_; rintro _ w3 ⟨rfl, e3⟩; subst w3)
    go_ret
    exact ⟨by simp, X.below⟩
  have hbI : ¬ (q : Int) < (c : Int) := by omega
  have hbI2 : (c : Int) ≤ (q : Int) := by omega
  by_cases hmid : m < c
  · have hmidI : (m : Int) < (c : Int) := by omega
    have hcpI : (0 : Int) < (c : Int) := by omega
    clear hq hm
    go_enter Try.func8, Try.ntmps8
    go_wp2_with fail
    go_ret
    exact ⟨rfl, Below.refl _ _⟩
  have hmidI : ¬ (m : Int) < (c : Int) := by omega
  have hcn : c * a0.size ≤ 16777216 := by
    have h1 : c * a0.size ≤ m * a0.size := Nat.mul_le_mul_right _ (by omega)
    have h2 : m * a0.size ≤ 16777216 := by rw [← hm]; exact Nat.div_mul_le_self _ _
    omega
  have hsz2 : 0 < c → a0.size ≤ 16777216 := fun h => by
    have : 1 * a0.size ≤ c * a0.size := Nat.mul_le_mul_right _ h
    omega
  obtain ⟨R, hR⟩ : ∃ R, repL a0.data.toList c = R := ⟨_, rfl⟩
  obtain ⟨sR, hsR⟩ : ∃ st, (⟨R.toArray⟩ : ByteArray) = st := ⟨_, rfl⟩
  have HR := Lib.hid hR
  have HSR := Lib.hid hsR
  clear hq hm hR hsR es
  by_cases hc0 : c = 0
  · subst hc0
    have HR0 := Lib.hid (show R = [] from HR.out.symm)
    go_enter Try.func8, Try.ntmps8
    go_wp2_with (refine wpList_toBytes rfl 9 22 _ rfl 5 Try.underlying9 Try.underlying22 Try.underlying5 _ rfl hmax ?_)
    intro v1 w1 o1 X
    have c2 := impl_Repeat_of v1 0 R w1 (fun W x => by rw [HR0.out]; exact bytes_Repeat_zero _ _ W (o1.bs.ext x)) (by rw [HR0.out]; simp)
    clear o1
    go_wp2_with (go_at_call 29; refine c2.mono ?_)
    rintro _ w2 ⟨v2, rfl, q2, x2⟩
    replace X := X.trans x2
    have cT := laws_text1 _ _ true _ q2
    rw [HSR.out] at cT
    clear x2 c2
    go_wp2_with (go_at_call 28; refine cT.mono ?_)
    rintro _ w3 ⟨rfl, e3⟩
    subst w3
    clear cT q2
    go_wp2_with (refine wpList_toBytes rfl 9 22 _ rfl 5 Try.underlying9 Try.underlying22 Try.underlying5 _ rfl hmax ?_)
    intro v4 w4 o4 x4
    replace X := X.trans x4
    have c5 := spec_Repeat _ _ 0 _ o4.bs (by omega) (by omega)
    rw [HR.out] at c5
    clear o4 x4
    go_wp2_with (go_at_call 30; refine c5.mono ?_)
    rintro _ w5 ⟨v5, rfl, o5, x5⟩
    replace X := X.trans x5
    have q5 := o5.bs
    clear x5 o5 c5
    go_wp2_with (refine wpList_toString rfl 22 9 _ rfl 5 Try.underlying22 Try.underlying5 Try.underlying9 _ _ rfl q5 ?_; rw [HSR.out])
    go_ret
    exact ⟨by simp, X.below⟩
  · have hcpI : (0 : Int) < (c : Int) := by omega
    have hsz3 := hsz2 (by omega)
    have hcn2 : c * a0.data.toList.length ≤ 1099511627776 := by show c * a0.size ≤ _; omega
    clear hsz2 hc0
    go_enter Try.func8, Try.ntmps8
    go_wp2_with (refine wpList_toBytes rfl 9 22 _ rfl 5 Try.underlying9 Try.underlying22 Try.underlying5 _ rfl hmax ?_)
    intro v1 w1 o1 X
    have c2 := impl_Repeat v1 _ c w1 o1.bs (by omega) (by show a0.size ≤ _; omega) hcn2
    rw [HR.out] at c2
    clear o1
    go_wp2_with (go_at_call 29; refine c2.mono ?_)
    rintro _ w2 ⟨v2, rfl, q2, x2⟩
    replace X := X.trans x2
    have cT := laws_text1 _ _ true _ q2
    rw [HSR.out] at cT
    clear x2 c2
    go_wp2_with (go_at_call 28; refine cT.mono ?_)
    rintro _ w3 ⟨rfl, e3⟩
    subst w3
    clear cT q2
    go_wp2_with (refine wpList_toBytes rfl 9 22 _ rfl 5 Try.underlying9 Try.underlying22 Try.underlying5 _ rfl hmax ?_)
    intro v4 w4 o4 x4
    replace X := X.trans x4
    have c5 := spec_Repeat _ _ c _ o4.bs (by omega) hcn2
    rw [HR.out] at c5
    clear o4 x4
    go_wp2_with (go_at_call 30; refine c5.mono ?_)
    rintro _ w5 ⟨v5, rfl, o5, x5⟩
    replace X := X.trans x5
    have q5 := o5.bs
    clear x5 o5 c5
    go_wp2_with (refine wpList_toString rfl 22 9 _ rfl 5 Try.underlying22 Try.underlying5 Try.underlying9 _ _ rfl q5 ?_; rw [HSR.out])
    go_ret
    exact ⟨by simp, X.below⟩

theorem FnRepeatIs_walk (w : World) (a0 : ByteArray) (z0 : a0.size ≤ reachBytes) (C : Int) (zc : (Lit.int .i64 C).wf = true) :
    Calls Try.prog 8 #[.string a0, .int .i64 C] w fun e w' => e = .returned (.bool true) ∧ Below w.heap.size w w' := by
  refine FnRepeatIs_walk0 w a0 z0 C ?_
  simp only [Lit.wf, Bool.and_eq_true, decide_eq_true_eq] at zc
  exact zc
end Go.Proofs.Ytlgoeiofachohaa
