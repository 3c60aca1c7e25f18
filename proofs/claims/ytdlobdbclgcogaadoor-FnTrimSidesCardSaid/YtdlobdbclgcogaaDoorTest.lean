/- The tests of code points: spec.holds and impl.Test's method. -/
import Derived.Test.YtdlobdbclgcogaaDoorVs
import Derived.Test.YtdlobdbclgcogaaDoorChecked
namespace Go.Proofs.YtdlobdbclgcogaaDoor
open Go.RowKit

theorem spec_holds (v : Value) (rs : List Int) (nt : Bool) (r : Int) (w : World) (h : Is w v rs) :
    Calls Tryd.prog 97 #[.agg #[v, .bool nt], .int .i32 r] w (RetV (.bool (holdsT rs nt r)) w) := by
  have hm := h.len
  unfold maxLen at hm
  obtain ⟨a, c, rfl, h1, h2, hc⟩ := h.raw
  clear h
  go_enter Tryd.func97, Tryd.ntmps97
  go_wp2_with fail
  have x1 : Ext w (w.alloc (.cells #[.slice a rs.length c, .bool nt] 36)) := Ext.alloc _ _
  have f0 : (w.alloc (.cells #[.slice a rs.length c, .bool nt] 36)).cell? ⟨w.heap.size, 0, none⟩ = some (.slice a rs.length c) := by rw [World.cell?_alloc_mark]; rfl
  have f1 : (w.alloc (.cells #[.slice a rs.length c, .bool nt] 36)).cell? ⟨w.heap.size, 1, none⟩ = some (.bool nt) := by rw [World.cell?_alloc_mark]; rfl
  obtain ⟨w1, hw1⟩ : ∃ w1, w1 = w.alloc (.cells #[.slice a rs.length c, .bool nt] 36) := ⟨_, rfl⟩
  rw [← hw1] at x1 f0 f1 ⊢
  clear hw1
  replace hc : ∀ i (h : i < rs.length), ∃ b o, a = some ⟨b, o, none⟩ ∧ w1.cell? ⟨b, o + i, none⟩ = some (.int .i32 rs[i]) := fun i hi => by
    obtain ⟨b, o, ha, hb⟩ := hc i hi
    exact ⟨b, o, ha, x1.cell hb⟩
  have HC := Lib.hid hc
  clear hc
  obtain ⟨B, hB⟩ : ∃ B, w.heap.size = B := ⟨_, rfl⟩
  rw [hB] at f0 f1 ⊢
  clear hB
  go_loopg [5] rs.length (fun k i wr => ∃ j : Nat, j + k = rs.length ∧ i = .int .i64 j ∧ r ∉ rs.take j ∧ w1 = wr)
  case atStart => exact ⟨0, by omega, rfl, by simp, rfl⟩
  case round =>
    obtain ⟨j, hj, rfl, hn, rfl⟩ := hrel
    have HN := Lib.hid hn
    have HJ := Lib.hid hj
    clear hn
    by_cases hlt : j < rs.length
    · have hg : 0 < gk := by omega
      have hj1 : j + 1 ≤ rs.length := hlt
      obtain ⟨b, o, rfl, hcj⟩ := HC.out j hlt
      by_cases he : rs[j] = r
      · have e1 : (rs[j] == r) = true := by simpa using he
        have hr : holdsT rs nt r = !nt := by
          unfold holdsT
          rw [if_pos]
          rw [← he]
          exact List.getElem_mem hlt
        have HR := Lib.hid hr
        clear hr he hj
        go_wp2_with fail
        go_ret
        exact ⟨by rw [HR.out]; rfl, x1⟩
      · have e1 : (rs[j] == r) = false := by simpa using he
        have HE := Lib.hid he
        clear he hj
        go_wp2_with fail
        go_roundg (gk - 1)
        case measure => omega
        case rel =>
          refine ⟨j + 1, by have := HJ.out; omega, by go_num, ?_, rfl⟩
          rw [mem_take_succ hlt]
          rintro (h | h)
          · exact HN.out h
          · exact HE.out h.symm
    · have hr : holdsT rs nt r = nt := by
        unfold holdsT
        rw [if_neg]
        have := HN.out
        rwa [List.take_of_length_le (by omega)] at this
      have HR := Lib.hid hr
      have hje : j = rs.length := by omega
      clear hr hj
      go_wp2_with fail
      go_ret
      exact ⟨by rw [HR.out]; rfl, x1⟩
theorem impl_holds (v : Value) (rs : List Int) (nt : Bool) (r : Int) (w : World) (h : Is w v rs) :
    Calls Tryd.prog 49 #[.agg #[v, .bool nt], .int .i32 r] w (RetV (.bool (holdsT rs nt r)) w) := by
  have hm := h.len
  unfold maxLen at hm
  obtain ⟨a, c, rfl, h1, h2, hc⟩ := h.raw
  clear h
  go_enter Tryd.func49, Tryd.ntmps49
  go_wp2_with fail
  have x1 : Ext w (w.alloc (.cells #[.slice a rs.length c, .bool nt] 36)) := Ext.alloc _ _
  have f0 : (w.alloc (.cells #[.slice a rs.length c, .bool nt] 36)).cell? ⟨w.heap.size, 0, none⟩ = some (.slice a rs.length c) := by rw [World.cell?_alloc_mark]; rfl
  have f1 : (w.alloc (.cells #[.slice a rs.length c, .bool nt] 36)).cell? ⟨w.heap.size, 1, none⟩ = some (.bool nt) := by rw [World.cell?_alloc_mark]; rfl
  obtain ⟨w1, hw1⟩ : ∃ w1, w1 = w.alloc (.cells #[.slice a rs.length c, .bool nt] 36) := ⟨_, rfl⟩
  rw [← hw1] at x1 f0 f1 ⊢
  clear hw1
  replace hc : ∀ i (h : i < rs.length), ∃ b o, a = some ⟨b, o, none⟩ ∧ w1.cell? ⟨b, o + i, none⟩ = some (.int .i32 rs[i]) := fun i hi => by
    obtain ⟨b, o, ha, hb⟩ := hc i hi
    exact ⟨b, o, ha, x1.cell hb⟩
  have HC := Lib.hid hc
  clear hc
  obtain ⟨B, hB⟩ : ∃ B, w.heap.size = B := ⟨_, rfl⟩
  rw [hB] at f0 f1 ⊢
  clear hB
  go_loopg [10] rs.length (fun k i wr => ∃ j : Nat, j + k = rs.length ∧ i = .int .i64 j ∧ r ∉ rs.take j ∧ w1 = wr)
  case atStart => exact ⟨0, by omega, rfl, by simp, rfl⟩
  case round =>
    obtain ⟨j, hj, rfl, hn, rfl⟩ := hrel
    have HN := Lib.hid hn
    have HJ := Lib.hid hj
    clear hn
    by_cases hlt : j < rs.length
    · have hg : 0 < gk := by omega
      have hj1 : j + 1 ≤ rs.length := hlt
      obtain ⟨b, o, rfl, hcj⟩ := HC.out j hlt
      by_cases he : rs[j] = r
      · have e1 : (rs[j] == r) = true := by simpa using he
        have hr : holdsT rs nt r = !nt := by
          unfold holdsT
          rw [if_pos]
          rw [← he]
          exact List.getElem_mem hlt
        have HR := Lib.hid hr
        clear hr he hj
        go_wp2_with fail
        go_ret
        exact ⟨by rw [HR.out]; rfl, x1⟩
      · have e1 : (rs[j] == r) = false := by simpa using he
        have HE := Lib.hid he
        clear he hj
        go_wp2_with fail
        go_roundg (gk - 1)
        case measure => omega
        case rel =>
          refine ⟨j + 1, by have := HJ.out; omega, by go_num, ?_, rfl⟩
          rw [mem_take_succ hlt]
          rintro (h | h)
          · exact HN.out h
          · exact HE.out h.symm
    · have hr : holdsT rs nt r = nt := by
        unfold holdsT
        rw [if_neg]
        have := HN.out
        rwa [List.take_of_length_le (by omega)] at this
      have HR := Lib.hid hr
      have hje : j = rs.length := by omega
      clear hr hj
      go_wp2_with fail
      go_ret
      exact ⟨by rw [HR.out]; rfl, x1⟩
end Go.Proofs.YtdlobdbclgcogaaDoor
