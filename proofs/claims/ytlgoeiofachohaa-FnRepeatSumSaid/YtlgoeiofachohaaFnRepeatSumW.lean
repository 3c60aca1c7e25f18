/- The walk of the law FnRepeatSum. -/
import Derived.Test.YtlgoeiofachohaaRepeatW
import Derived.Deep.DeepCutAuto
namespace Go.Proofs.Ytlgoeiofachohaa
open Go.RowKit

set_option maxRecDepth 100000 in
set_option maxHeartbeats 8000000 in
theorem FnRepeatSum_walk (w : World) (a0 : ByteArray) (z0 : a0.size ≤ 140737488351232) (n1 n2 : UInt8) :
    Calls Try.prog 9 #[.string a0, .int .u8 (n1.toNat : Int), .int .u8 (n2.toNat : Int)] w fun e w' => e = .returned (.bool true) ∧ Below w.heap.size w w' := by
  have hc1 := n1.toNat_lt
  have hc2 := n2.toNat_lt
  obtain ⟨c, hc⟩ : ∃ c, n1.toNat = c := ⟨_, rfl⟩
  obtain ⟨d, hd⟩ : ∃ d, n2.toNat = d := ⟨_, rfl⟩
  rw [hc] at hc1 ⊢
  rw [hd] at hc2 ⊢
  clear hc hd
  by_cases h8 : 32768 < a0.size
  case pos =>
    go_enter Try.func9, Try.ntmps9
    go_wp2_with fail
    go_ret
    exact ⟨rfl, Below.refl _ _⟩
  have hmax : a0.size ≤ maxLen := by unfold maxLen; omega
  have es : a0.data.toList.length = a0.size := rfl
  have hb : ∀ k, k ≤ 510 → k * a0.size ≤ 1099511627776 := fun k hk => by
    have : k * a0.size ≤ 510 * 32768 := Nat.mul_le_mul hk (by omega)
    omega
  have keyS := repL_add a0.data.toList c d
  have keyL := repL_length a0.data.toList c
  rw [es] at keyL
  obtain ⟨X1, h1⟩ : ∃ X, repL a0.data.toList c = X := ⟨_, rfl⟩
  obtain ⟨X2, h2⟩ : ∃ X, repL a0.data.toList d = X := ⟨_, rfl⟩
  obtain ⟨X3, h3⟩ : ∃ X, repL a0.data.toList (c + d) = X := ⟨_, rfl⟩
  rw [h1, h2, h3] at keyS
  rw [h1] at keyL
  obtain ⟨s1, g1⟩ : ∃ st, (⟨X1.toArray⟩ : ByteArray) = st := ⟨_, rfl⟩
  obtain ⟨s2, g2⟩ : ∃ st, (⟨X2.toArray⟩ : ByteArray) = st := ⟨_, rfl⟩
  obtain ⟨s3, g3⟩ : ∃ st, (⟨X3.toArray⟩ : ByteArray) = st := ⟨_, rfl⟩
  have hcat : s1 ++ s2 = s3 := by
    rw [← g1, ← g2, ← g3, keyS]
    apply ByteArray.ext
    simp
  have hs2 : s2.size ≤ 1099511627776 := by
    rw [← g2]
    show X2.length ≤ _
    rw [← h2, repL_length]
    exact hb d (by omega)
  have hs1 : s1.size = c * a0.size := by rw [← g1]; exact keyL
  obtain ⟨P, hP⟩ : ∃ P, c * a0.size = P := ⟨_, rfl⟩
  have hPb : P ≤ 1099511627776 := by rw [← hP]; exact hb c (by omega)
  have hPI : (a0.size : Int) * (c : Int) = (P : Int) := by rw [← hP, Nat.mul_comm]; simp
  rw [hP] at hs1
  have H1 := Lib.hid h1
  have H2 := Lib.hid h2
  have H3 := Lib.hid h3
  have G1 := Lib.hid g1
  have G2 := Lib.hid g2
  have G3 := Lib.hid g3
  have HCAT := Lib.hid hcat
  have HS1 := Lib.hid hs1
  have hb1 := hb c (by omega)
  have hb2 := hb d (by omega)
  have hb3 := hb (c + d) (by omega)
  clear h1 h2 h3 g1 g2 g3 hcat hs1 keyS keyL hP hb es
  go_enter Try.func9, Try.ntmps9
  go_wp2_with (refine wpList_toBytes rfl 9 22 _ rfl 5 Try.underlying9 Try.underlying22 Try.underlying5 _ rfl hmax ?_)
  intro v1 w1 o1 X
  have c2 := impl_Repeat _ _ c _ o1.bs (by omega) (by show a0.size ≤ _; omega) hb1
  rw [H1.out] at c2
  clear o1
  go_wp2_with (go_at_call 29; refine c2.mono ?_)
  rintro _ w2 ⟨v2, rfl, q2, x2⟩
  replace X := X.trans x2
  have c3 := laws_text1 _ _ true _ q2
  rw [G1.out] at c3
  clear x2 c2
  go_wp2_with (go_at_call 28; refine c3.mono ?_)
  rintro _ w3 ⟨rfl, e3⟩
  subst w3
  clear c3 q2
  go_wp2_with (refine wpList_toBytes rfl 9 22 _ rfl 5 Try.underlying9 Try.underlying22 Try.underlying5 _ rfl hmax ?_)
  intro v4 w4 o4 x4
  replace X := X.trans x4
  have c5 := impl_Repeat _ _ d _ o4.bs (by omega) (by show a0.size ≤ _; omega) hb2
  rw [H2.out] at c5
  clear o4 x4
  go_wp2_with (go_at_call 29; refine c5.mono ?_)
  rintro _ w5 ⟨v5, rfl, q5, x5⟩
  replace X := X.trans x5
  have c6 := laws_text1 _ _ true _ q5
  rw [G2.out] at c6
  clear x5 c5
  go_wp2_with (go_at_call 28; refine c6.mono ?_)
  rintro _ w6 ⟨rfl, e6⟩
  subst w6
  clear c6 q5
  go_wp2_with (refine wpList_toBytes rfl 9 22 _ rfl 5 Try.underlying9 Try.underlying22 Try.underlying5 _ rfl hmax ?_)
  intro v7 w7 o7 x7
  replace X := X.trans x7
  have c8 := impl_Repeat _ _ (c + d) _ o7.bs (by omega) (by show a0.size ≤ _; omega) hb3
  rw [H3.out, show ((c + d : Nat) : Int) = (c : Int) + (d : Int) by omega] at c8
  clear o7 x7
  go_wp2_with (go_at_call 29; refine c8.mono ?_)
  rintro _ w8 ⟨v8, rfl, q8, x8⟩
  replace X := X.trans x8
  have c9 := laws_text1 _ _ true _ q8
  rw [G3.out] at c9
  clear x8 c8
  have hcat := HCAT.out
  have hs1 := HS1.out
  go_wp2_with (go_at_call 28; refine c9.mono ?_; rintro _ w9 ⟨rfl, e9⟩; subst w9)
  go_ret
  exact ⟨by simp, X.below⟩
end Go.Proofs.Ytlgoeiofachohaa
