/- Contracts of the laws' own small helpers: a text out of bytes, a text read from behind. Conditions: lengths within the form's reach. -/
import Derived.Test.YtlklmolcficdaaaWrapA
namespace Go.Proofs.Ytlklmolcficdaaa
open Go.RowKit

theorem laws_text1 (v : Value) (l : List UInt8) (b : Bool) (w : World) (h : Bs w v l) :
    Calls Try.prog 19 #[v, .bool b] w fun e w' => e = .returned (.tuple #[.string ⟨l.toArray⟩, .bool b]) ∧ w = w' := by
  go_enter Try.func19, Try.ntmps19
  go_wp2_with (refine wpList_toString rfl 23 9 (.tmp 6) rfl 5 Try.underlying23 Try.underlying5 Try.underlying9 _ _ rfl h ?_)
  go_ret2
  exact ⟨rfl, rfl⟩

theorem laws_back (s : ByteArray) (w : World) (hs : s.size ≤ 140737488355328) :
    Calls Try.prog 24 #[.string s] w (RetV (.string ⟨s.data.toList.reverse.toArray⟩) w) := by
  go_enter Try.func24, Try.ntmps24
  go_wp2_with (refine wpList_toBytes rfl 9 23 _ rfl 5 Try.underlying9 Try.underlying23 Try.underlying5 _ rfl ?_ ?_)
  · simp [maxLen]; omega
  intro v1 w1 o1 x1
  have b1 := o1.bs
  obtain ⟨a, c, rfl, k1, k2, k3⟩ := b1
  clear o1
  have hln : s.data.toList.length = s.size := rfl
  rw [hln] at k1 ⊢
  have HL := Lib.hid hln
  clear hln
  go_wp2_with (refine wpList_mkBuf rfl 23 _ _ rfl 5 Try.underlying23 info_u8' _ _ _ s.size rfl rfl rfl (by omega) ?_)
  intro v2 w2 f2 x2
  go_wp2_with fail
  go_loopg [4, 5] s.size (fun k v i wr => k ≤ s.size ∧ i = .int .i64 ((k : Int) - 1) ∧ Buf w1.heap.size 5 wr v (s.data.toList.drop k).reverse ∧ Below w1.heap.size w1 wr)
  case atStart =>
    have e0 : s.data.toList.drop s.size = [] := List.drop_of_length_le (Nat.le_refl _)
    exact ⟨Nat.le_refl _, rfl, by rw [e0]; exact f2, x2.below⟩
  case round =>
    obtain ⟨hk, rfl, hf, hb⟩ := hrel
    by_cases hlt : 0 < gk
    · obtain ⟨j, rfl⟩ : ∃ j, gk = j + 1 := ⟨gk - 1, by omega⟩
      have ej : (((j + 1 : Nat) : Int) - 1) = (j : Int) := by omega
      rw [ej]
      clear ej
      have hj : j < s.size := by omega
      have hj' : j < s.data.toList.length := hj
      rcases k3 with k3 | ⟨bb, o, rfl, hc⟩
      · rw [k3] at hj'; simp at hj'
      obtain ⟨x, hx⟩ : ∃ x : UInt8, s.data.toList[j]'hj' = x := ⟨_, rfl⟩
      have g : wr.cell? ⟨bb, o + j, none⟩ = some (.int .u8 (x.toNat : Int)) := by rw [← hx]; exact (hb.cell (World.block_lt_of_cell? _ _ (hc j hj'))).trans (hc j hj')
      have HX := Lib.hid hx
      clear hx
      have bx := Bs.one wr 5 x
      have fk := hf.keep (Ext.alloc wr (.cells #[.int .u8 (x.toNat : Int)] 5))
      have hlen : (s.data.toList.drop (j + 1)).reverse.length + [x].length ≤ 140737488355328 := by simp; omega
      have hsz := hb.size
      have hB : w1.heap.size ≤ (wr.alloc (.cells #[.int .u8 (x.toNat : Int)] 5)).heap.size := by simp; omega
      clear hc
      go_wp2_with (refine wpList_appendBs rfl 23 _ _ rfl 5 Try.underlying23 info_u8' w1.heap.size _ _ rfl fk _ _ rfl bx hlen hB ?_)
      intro v3 w3 f3 g3
      have hb3 := fk.grown g3 hB (hb.alloc hsz (.cells #[.int .u8 (x.toNat : Int)] 5)) (Nat.le_refl _)
      have e3 : (s.data.toList.drop (j + 1)).reverse ++ [x] = (s.data.toList.drop j).reverse := by
        rw [List.drop_eq_getElem_cons hj', List.reverse_cons, HX.out]
      rw [e3] at f3
      clear e3 fk bx g3 g
      go_wp2_with fail
      go_roundg j
      case measure => omega
      case rel => exact ⟨by omega, rfl, f3, hb3⟩
    · obtain rfl : gk = 0 := by omega
      rw [List.drop_zero] at hf
      have bf := hf.own.bs
      go_wp2_with (refine wpList_toString rfl 23 9 _ rfl 5 Try.underlying23 Try.underlying5 Try.underlying9 _ _ rfl bf ?_)
      go_ret
      exact ⟨rfl, x1.trans ⟨hb⟩⟩
end Go.Proofs.Ytlklmolcficdaaa
