/- Tables of code points: the words, and the walks of what a table gives a code point. -/
import Derived.Test.YtiahholgpbjjfaaDoorDec
import Derived.Test.YtiahholgpbjjfaaDoorMapP
import Derived.Test.YtiahholgpbjjfaaDoorAppV
import Derived.Deep.DeepCutAuto
namespace Go.Proofs.YtiahholgpbjjfaaDoor
open Go.RowKit

/-- What a table gives a code point: its first row of that code point, or the code point itself. -/
def imageT : List (Int × Int) → Int → Int
  | [], r => r
  | x :: xs, r => if x.1 = r then x.2 else imageT xs r

def tcells : List (Int × Int) → List Value
  | [] => []
  | x :: xs => .int .i32 x.1 :: .int .i32 x.2 :: tcells xs
theorem tcells_length : ∀ xs, (tcells xs).length = xs.length * 2
  | [] => rfl
  | x :: xs => by rw [tcells, List.length_cons, List.length_cons, tcells_length xs, List.length_cons]; omega
theorem tcells_get : ∀ (xs : List (Int × Int)) (i : Nat) (h : i < xs.length), (tcells xs)[i * 2]? = some (.int .i32 xs[i].1) ∧ (tcells xs)[i * 2 + 1]? = some (.int .i32 xs[i].2)
  | [], _, h => by simp at h
  | x :: xs, 0, _ => by simp [tcells]
  | x :: xs, i + 1, h => by
    have ih := tcells_get xs i (by simpa using h)
    have e1 : (i + 1) * 2 = i * 2 + 2 := by omega
    rw [e1]
    simpa [tcells] using ih
theorem tcells_one (xs : List (Int × Int)) : ∀ u ∈ tcells xs, u.oneCell' = true := by
  induction xs with
  | nil => intro u hu; cases hu
  | cons x xs ih =>
    intro u hu
    rw [tcells] at hu
    rcases List.mem_cons.1 hu with rfl | hu
    · rfl
    · rcases List.mem_cons.1 hu with rfl | hu
      · rfl
      · exact ih u hu
theorem tcells_append : ∀ xs ys, tcells (xs ++ ys) = tcells xs ++ tcells ys
  | [], _ => rfl
  | x :: xs, ys => by rw [List.cons_append, tcells, tcells, tcells_append xs ys]; rfl

/-- A slice of rows. -/
def Ts (w : World) (v : Value) (rows : List (Int × Int)) : Prop := Vs w v rows.length 2 (tcells rows)
theorem Ts.ext {w w' : World} {v : Value} {rows : List (Int × Int)} (h : Ts w v rows) (x : Ext w w') : Ts w' v rows := Vs.ext h x
theorem Ts.raw {w : World} {v : Value} {rows : List (Int × Int)} (h : Ts w v rows) : ∃ a c, v = .slice a rows.length c ∧ rows.length ≤ c ∧ c ≤ maxLen ∧ ∀ i (h : i < rows.length), ∃ b o, a = some ⟨b, o, none⟩ ∧
    w.cell? ⟨b, o + i * 2, none⟩ = some (.int .i32 rows[i].1) ∧ w.cell? ⟨b, o + i * 2 + 1, none⟩ = some (.int .i32 rows[i].2) := by
  obtain ⟨hl, a, c, rfl, h1, h2, h3⟩ := h
  refine ⟨a, c, rfl, h1, h2, fun i hi => ?_⟩
  rcases h3 with h3 | ⟨b, o, rfl, hc⟩
  · rw [h3] at hl; simp at hl; omega
  · have hg := tcells_get rows i hi
    have rd : ∀ f u, (tcells rows)[i * 2 + f]? = some u → w.cell? ⟨b, o + i * 2 + f, none⟩ = some u := by
      intro f u hu
      obtain ⟨hlt, he⟩ := List.getElem?_eq_some_iff.1 hu
      have := hc (i * 2 + f) hlt
      rw [he] at this
      rw [Nat.add_assoc]
      exact this
    refine ⟨b, o, rfl, ?_, rd 1 _ hg.2⟩
    have := rd 0 _ hg.1
    simpa using this

theorem imageT_drop (xs : List (Int × Int)) (j : Nat) (h : j < xs.length) (r : Int) : imageT (xs.drop j) r = if xs[j].1 = r then xs[j].2 else imageT (xs.drop (j + 1)) r := by
  rw [List.drop_eq_getElem_cons h, imageT]


set_option maxRecDepth 100000 in
set_option maxHeartbeats 1000000 in
theorem impl_image (v : Value) (rows : List (Int × Int)) (r : Int) (w : World) (h : Ts w v rows) :
    Calls Tryd.prog 22 #[.agg #[v], .int .i32 r] w (RetV (.int .i32 (imageT rows r)) w) := by
  obtain ⟨a, c, rfl, h1, h2, hc⟩ := h.raw
  have hc1 : c ≤ 9223372036854775807 := by unfold maxLen at h2; omega
  clear h h2
  have x1 : Ext w (w.alloc (.cells #[.slice a rows.length c] 35)) := Ext.alloc _ _
  have HC := Lib.hid hc
  clear hc
  go_enter Tryd.func22, Tryd.ntmps22
  go_wp2_with fail
  go_loopg [10] rows.length (fun k i wr => ∃ j : Nat, j + k = rows.length ∧ i = .int .i64 j ∧ imageT rows r = imageT (rows.drop j) r ∧ Ext w wr)
  case atStart => exact ⟨0, by omega, rfl, rfl, x1⟩
  case round =>
    obtain ⟨j, hj, rfl, hn, hx⟩ := hrel
    have HJ := Lib.hid hj
    have HX := Lib.hid hx
    clear hx x1
    by_cases hlt : j < rows.length
    · have hg : 0 < gk := by omega
      obtain ⟨b, o, rfl, d0, d1⟩ := HC.out j hlt
      replace d0 := HX.out.cell d0
      replace d1 := HX.out.cell d1
      rw [imageT_drop rows j hlt] at hn
      obtain ⟨p, hrow⟩ : ∃ p, rows[j].1 = p := ⟨_, rfl⟩
      obtain ⟨q, hrow2⟩ : ∃ q, rows[j].2 = q := ⟨_, rfl⟩
      rw [hrow] at d0 hn
      rw [hrow2] at d1 hn
      by_cases he : p = r
      · have e1 : (p == r) = true := by simpa using he
        have HR := Lib.hid (show imageT rows r = q by rw [hn, if_pos he])
        clear he hj hn hrow hrow2
        go_wp2_with fail
        go_ret
        exact ⟨by rw [HR.out]; rfl, HX.out.trans (Ext.alloc _ _)⟩
      · have e1 : (p == r) = false := by simpa using he
        have HR := Lib.hid (show imageT rows r = imageT (rows.drop (j + 1)) r by rw [hn, if_neg he])
        clear he hj hn hrow hrow2
        go_wp2_with fail
        go_roundg (gk - 1)
        case measure => omega
        case rel => exact ⟨j + 1, by have := HJ.out; omega, by go_num, HR.out, HX.out.trans (Ext.alloc _ _)⟩
    · have HR := Lib.hid (show imageT rows r = r by rw [hn, List.drop_of_length_le (by omega)]; rfl)
      clear hj hn
      go_wp2_with fail
      go_ret
      exact ⟨by rw [HR.out]; rfl, HX.out⟩
end Go.Proofs.YtiahholgpbjjfaaDoor
