/- The reference model's encode. -/
import Derived.Test.YtdlobdbclgcogaaDoorMapW
import Derived.Deep.DeepCutAuto
namespace Go.Proofs.YtdlobdbclgcogaaDoor
open Go.RowKit

theorem bs_new (w : World) (e : TypeId) (l : List UInt8) (hl : l.length ≤ 4) : Bs (w.alloc (.cells (bcells l).toArray e)) (.slice (some ⟨w.heap.size, 0, none⟩) l.length l.length) l := by
  refine ⟨_, l.length, rfl, Nat.le_refl _, by unfold maxLen; omega, .inr ⟨_, _, rfl, fun i h => ?_⟩⟩
  rw [World.cell?_alloc_mark]
  simp [bcells, h]

set_option maxRecDepth 100000 in
set_option maxHeartbeats 2000000 in
theorem spec_encode (n : Nat) (w : World) (hn : n ≤ 2147483647) :
    Calls Tryd.prog 100 #[.int .i32 (n : Int)] w (RetV (.string ⟨(encN n).toArray⟩) w) := by
  have hneg : ¬ (n : Int) < 0 := by omega
  by_cases hs : scalarN n
  case neg =>
    have hE : encN n = [239, 191, 189] := by unfold encN normN; rw [if_neg hs]; decide
    rw [hE]
    unfold scalarN at hs
    by_cases h1 : 1114111 < n
    · have h1' : (1114111 : Int) < (n : Int) := by omega
      clear hs
      go_enter Tryd.func100, Tryd.ntmps100
      go_wp2_with fail
      go_ret
      exact ⟨rfl, Ext.refl _⟩
    · have h1' : ¬ (1114111 : Int) < (n : Int) := by omega
      have h2 : (55296 : Int) ≤ (n : Int) := by omega
      have h3 : (n : Int) ≤ 57343 := by omega
      clear hs
      go_enter Tryd.func100, Tryd.ntmps100
      go_wp2_with fail
      go_ret
      exact ⟨rfl, Ext.refl _⟩
  have hE : encN n = encS n := by unfold encN; rw [normN_of hs]
  rw [hE]
  unfold scalarN at hs
  have h1' : ¬ (1114111 : Int) < (n : Int) := by omega
  have h2' : (55296 : Int) ≤ (n : Int) → ¬ (n : Int) ≤ 57343 := by omega
  by_cases k1 : n < 128
  · have e : encS n = [n.toUInt8] := by unfold encS; rw [if_pos k1]
    have k1' : (n : Int) < 128 := by omega
    have k2' : ¬ (55296 : Int) ≤ (n : Int) := by omega
    rw [e]
    have b := bs_new w 5 [n.toUInt8] (by simp)
    have hb : (bcells [n.toUInt8]).toArray = #[.int .u8 (n : Int)] := by simp [bcells, u8_toNat (show n < 256 by omega)]
    rw [hb] at b
    clear hE hs e h2'
    go_enter Tryd.func100, Tryd.ntmps100
    go_wp2_with (refine wpList_toString rfl 24 9 _ rfl 5 Tryd.underlying24 Tryd.underlying5 Tryd.underlying9 _ _ rfl b ?_)
    go_ret
    exact ⟨rfl, Ext.alloc _ _⟩
  have k1' : ¬ (n : Int) < 128 := by omega
  by_cases k2 : n < 2048
  · have e : encS n = [(192 + n / 64).toUInt8, (128 + n % 64).toUInt8] := by unfold encS; rw [if_neg k1, if_pos k2]
    have k2' : (n : Int) < 2048 := by omega
    have k3' : ¬ (55296 : Int) ≤ (n : Int) := by omega
    obtain ⟨l, hl⟩ : ∃ l, encS n = l := ⟨_, rfl⟩
    have b : Bs (w.alloc (.cells #[.int .u8 (192 + (n : Int) / 64), .int .u8 (128 + (n : Int) % 64)] 5)) (.slice (some ⟨w.heap.size, 0, none⟩) 2 2) l := by
      have b := bs_new w 5 [(192 + n / 64).toUInt8, (128 + n % 64).toUInt8] (by simp)
      have hb : (bcells [(192 + n / 64).toUInt8, (128 + n % 64).toUInt8]).toArray = #[.int .u8 (192 + (n : Int) / 64), .int .u8 (128 + (n : Int) % 64)] := by
        simp only [bcells, List.map_cons, List.map_nil]
        rw [u8_toNat (show 192 + n / 64 < 256 by omega), u8_toNat (show 128 + n % 64 < 256 by omega)]
        simp
      rw [hb] at b
      rw [← hl, e]
      exact b
    rw [hl]
    clear hE hs e h2' hl
    go_enter Tryd.func100, Tryd.ntmps100
    go_wp2_with (refine wpList_toString rfl 24 9 _ rfl 5 Tryd.underlying24 Tryd.underlying5 Tryd.underlying9 _ _ rfl b ?_)
    go_ret
    exact ⟨rfl, Ext.alloc _ _⟩
  have k2' : ¬ (n : Int) < 2048 := by omega
  by_cases k3 : n < 65536
  · have k3' : (n : Int) < 65536 := by omega
    by_cases k4 : n < 55296
    · have e : encS n = [(224 + n / 4096).toUInt8, (128 + n / 64 % 64).toUInt8, (128 + n % 64).toUInt8] := by unfold encS; rw [if_neg k1, if_neg k2, if_pos k3]
      have k4' : ¬ (55296 : Int) ≤ (n : Int) := by omega
      obtain ⟨l, hl⟩ : ∃ l, encS n = l := ⟨_, rfl⟩
      have b : Bs (w.alloc (.cells #[.int .u8 (224 + (n : Int) / 4096), .int .u8 (128 + (n : Int) / 64 % 64), .int .u8 (128 + (n : Int) % 64)] 5)) (.slice (some ⟨w.heap.size, 0, none⟩) 3 3) l := by
        have b := bs_new w 5 [(224 + n / 4096).toUInt8, (128 + n / 64 % 64).toUInt8, (128 + n % 64).toUInt8] (by simp)
        have hb : (bcells [(224 + n / 4096).toUInt8, (128 + n / 64 % 64).toUInt8, (128 + n % 64).toUInt8]).toArray = #[.int .u8 (224 + (n : Int) / 4096), .int .u8 (128 + (n : Int) / 64 % 64), .int .u8 (128 + (n : Int) % 64)] := by
          simp only [bcells, List.map_cons, List.map_nil]
          rw [u8_toNat (show 224 + n / 4096 < 256 by omega), u8_toNat (show 128 + n / 64 % 64 < 256 by omega), u8_toNat (show 128 + n % 64 < 256 by omega)]
          simp
        rw [hb] at b
        rw [← hl, e]
        exact b
      rw [hl]
      clear hE hs e h2' hl
      go_enter Tryd.func100, Tryd.ntmps100
      go_wp2_with (refine wpList_toString rfl 24 9 _ rfl 5 Tryd.underlying24 Tryd.underlying5 Tryd.underlying9 _ _ rfl b ?_)
      go_ret
      exact ⟨rfl, Ext.alloc _ _⟩
    · have e : encS n = [(224 + n / 4096).toUInt8, (128 + n / 64 % 64).toUInt8, (128 + n % 64).toUInt8] := by unfold encS; rw [if_neg k1, if_neg k2, if_pos k3]
      have k4' : (55296 : Int) ≤ (n : Int) := by omega
      have k5' : ¬ (n : Int) ≤ 57343 := by omega
      obtain ⟨l, hl⟩ : ∃ l, encS n = l := ⟨_, rfl⟩
      have b : Bs (w.alloc (.cells #[.int .u8 (224 + (n : Int) / 4096), .int .u8 (128 + (n : Int) / 64 % 64), .int .u8 (128 + (n : Int) % 64)] 5)) (.slice (some ⟨w.heap.size, 0, none⟩) 3 3) l := by
        have b := bs_new w 5 [(224 + n / 4096).toUInt8, (128 + n / 64 % 64).toUInt8, (128 + n % 64).toUInt8] (by simp)
        have hb : (bcells [(224 + n / 4096).toUInt8, (128 + n / 64 % 64).toUInt8, (128 + n % 64).toUInt8]).toArray = #[.int .u8 (224 + (n : Int) / 4096), .int .u8 (128 + (n : Int) / 64 % 64), .int .u8 (128 + (n : Int) % 64)] := by
          simp only [bcells, List.map_cons, List.map_nil]
          rw [u8_toNat (show 224 + n / 4096 < 256 by omega), u8_toNat (show 128 + n / 64 % 64 < 256 by omega), u8_toNat (show 128 + n % 64 < 256 by omega)]
          simp
        rw [hb] at b
        rw [← hl, e]
        exact b
      rw [hl]
      clear hE hs e h2' hl
      go_enter Tryd.func100, Tryd.ntmps100
      go_wp2_with (refine wpList_toString rfl 24 9 _ rfl 5 Tryd.underlying24 Tryd.underlying5 Tryd.underlying9 _ _ rfl b ?_)
      go_ret
      exact ⟨rfl, Ext.alloc _ _⟩
  · have e : encS n = [(240 + n / 262144).toUInt8, (128 + n / 4096 % 64).toUInt8, (128 + n / 64 % 64).toUInt8, (128 + n % 64).toUInt8] := by unfold encS; rw [if_neg k1, if_neg k2, if_neg k3]
    have k3' : ¬ (n : Int) < 65536 := by omega
    have k4' : (55296 : Int) ≤ (n : Int) := by omega
    have k5' : ¬ (n : Int) ≤ 57343 := by omega
    obtain ⟨l, hl⟩ : ∃ l, encS n = l := ⟨_, rfl⟩
    have b : Bs (w.alloc (.cells #[.int .u8 (240 + (n : Int) / 262144), .int .u8 (128 + (n : Int) / 4096 % 64), .int .u8 (128 + (n : Int) / 64 % 64), .int .u8 (128 + (n : Int) % 64)] 5)) (.slice (some ⟨w.heap.size, 0, none⟩) 4 4) l := by
      have b := bs_new w 5 [(240 + n / 262144).toUInt8, (128 + n / 4096 % 64).toUInt8, (128 + n / 64 % 64).toUInt8, (128 + n % 64).toUInt8] (by simp)
      have hb : (bcells [(240 + n / 262144).toUInt8, (128 + n / 4096 % 64).toUInt8, (128 + n / 64 % 64).toUInt8, (128 + n % 64).toUInt8]).toArray = #[.int .u8 (240 + (n : Int) / 262144), .int .u8 (128 + (n : Int) / 4096 % 64), .int .u8 (128 + (n : Int) / 64 % 64), .int .u8 (128 + (n : Int) % 64)] := by
        simp only [bcells, List.map_cons, List.map_nil]
        rw [u8_toNat (show 240 + n / 262144 < 256 by omega), u8_toNat (show 128 + n / 4096 % 64 < 256 by omega), u8_toNat (show 128 + n / 64 % 64 < 256 by omega), u8_toNat (show 128 + n % 64 < 256 by omega)]
        simp
      rw [hb] at b
      rw [← hl, e]
      exact b
    rw [hl]
    clear hE hs e h2' hl
    go_enter Tryd.func100, Tryd.ntmps100
    go_wp2_with (refine wpList_toString rfl 24 9 _ rfl 5 Tryd.underlying24 Tryd.underlying5 Tryd.underlying9 _ _ rfl b ?_)
    go_ret
    exact ⟨rfl, Ext.alloc _ _⟩
end Go.Proofs.YtdlobdbclgcogaaDoor
