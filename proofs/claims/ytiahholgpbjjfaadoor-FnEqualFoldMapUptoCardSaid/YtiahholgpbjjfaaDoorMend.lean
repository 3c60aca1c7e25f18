/- The walks of ToValidUTF8: the library's, the thin package's and the reference model's; whole texts. -/
import Derived.Test.YtiahholgpbjjfaaDoorDec
import Derived.Test.YtiahholgpbjjfaaDoorMapP
import Derived.Test.YtiahholgpbjjfaaDoorGlued
import Derived.Test.YtiahholgpbjjfaaDoorWrapA
import Derived.Test.YtiahholgpbjjfaaDoorZA
import Derived.Deep.DeepCutAuto
namespace Go.Proofs.YtiahholgpbjjfaaDoor
open Go.RowKit

theorem chunk_at (l : List UInt8) (j : Nat) (hj : j < (chunks l).length) : (chunks l)[j] = ⟨(l.drop (placeOf (chunks l) j)).take (dec (l.drop (placeOf (chunks l) j))).2, (dec (l.drop (placeOf (chunks l) j))).1, decOk (l.drop (placeOf (chunks l) j))⟩ := by
  have hne := (dec_at l j hj).1
  have h1 := chunks_post ((chunks l).take j) ((chunks l).drop j) l (List.take_append_drop _ _).symm
  have h2 : glue ((chunks l).drop j) = l.drop (placeOf (chunks l) j) := by
    have e1 : glue ((chunks l).take j) ++ glue ((chunks l).drop j) = l := by rw [← glue_append, List.take_append_drop, glue_chunks]
    have e2 := congrArg (List.drop (placeOf (chunks l) j)) e1
    rw [← e2, List.drop_left' (show (glue ((chunks l).take j)).length = placeOf (chunks l) j from rfl)]
  rw [h2, chunks_cons hne, List.drop_eq_getElem_cons hj] at h1
  exact (List.cons.inj h1).1.symm

/-- A code point's bytes, and whether it is a well-formed sequence. -/
theorem chunk_ok_at (l : List UInt8) (j : Nat) (hj : j < (chunks l).length) (hp : placeOf (chunks l) j < l.length) :
    (chunks l)[j].bs = part l (placeOf (chunks l) j) (placeOf (chunks l) j + (chunks l)[j].bs.length) ∧ (chunks l)[j].ok = (decide ((l[placeOf (chunks l) j]).toNat < 128) || decide (2 ≤ (chunks l)[j].bs.length)) ∧
    ((l[placeOf (chunks l) j]).toNat < 128 → (chunks l)[j].bs = [l[placeOf (chunks l) j]]) := by
  have h := chunk_at l j hj
  have hd := dec_at l j hj
  have h2 : (dec (l.drop (placeOf (chunks l) j))).2 = (chunks l)[j].bs.length := by rw [hd.2]
  have h3 : (l.drop (placeOf (chunks l) j)).getD 0 0 = l[placeOf (chunks l) j] := by simp [List.getD, hp]
  refine ⟨?_, ?_, fun hc => ?_⟩
  · have := congrArg Ch.bs h
    simp only [h2] at this
    rw [part, List.drop_take]
    simpa using this
  · have := congrArg Ch.ok h
    simp only [decOk, h2, h3] at this
    exact this
  · have e : l.drop (placeOf (chunks l) j) = l[placeOf (chunks l) j] :: l.drop (placeOf (chunks l) j + 1) := List.drop_eq_getElem_cons hp
    have := congrArg Ch.bs h
    simp only at this
    rw [this, e, dec_ascii _ _ hc]
    rfl

theorem Bs.raw {w : World} {v : Value} {l : List UInt8} (h : Bs w v l) : ∃ a c, v = .slice a l.length c ∧ l.length ≤ c ∧ c ≤ maxLen ∧ ∀ i (h : i < l.length), ∃ b o, a = some ⟨b, o, none⟩ ∧ w.cell? ⟨b, o + i, none⟩ = some (.int .u8 (l[i].toNat : Int)) := by
  obtain ⟨a, c, hv, h1, h2, h3⟩ := h
  refine ⟨a, c, hv, h1, h2, fun i hi => ?_⟩
  rcases h3 with rfl | ⟨b, o, ha, hc⟩
  · cases hi
  · exact ⟨b, o, ha, hc i hi⟩

theorem mendC_step (by_ : List UInt8) (bad : Bool) (cs : List Ch) (j : Nat) (hj : j < cs.length) : mendC by_ bad (cs.drop j) = (if cs[j].ok then cs[j].bs else if bad then [] else by_) ++ mendC by_ (!cs[j].ok) (cs.drop (j + 1)) := by
  rw [List.drop_eq_getElem_cons hj, mendC]


theorem wholeC_cons (c : Ch) (cs : List Ch) : wholeC (c :: cs) = (c.ok && wholeC cs) := by simp [wholeC]

set_option maxRecDepth 100000 in
set_option maxHeartbeats 1000000 in
theorem spec_whole (s : ByteArray) (w : World) (hs : s.size ≤ 1099511627776) :
    Calls Tryd.prog 18 #[.string s] w (RetV (.bool (wholeB s.data.toList)) w) := by
  obtain ⟨cs, hcs⟩ : ∃ cs, chunks s.data.toList = cs := ⟨_, rfl⟩
  have HW := Lib.hid (show wholeB s.data.toList = wholeC cs by rw [← hcs]; rfl)
  have cP := spec_pieces s w hs
  rw [hcs] at cP
  clear hcs
  go_enter Tryd.func18, Tryd.ntmps18
  go_wp2_with (go_at_call 28; refine cP.mono ?_)
  rintro _ w1 ⟨v1, rfl, p1, x1⟩
  obtain ⟨_, a, c, rfl, h1, h2, hc⟩ := p1.raw
  have hc1 : c ≤ 9223372036854775807 := by unfold maxLen at h2; omega
  have HC := Lib.hid hc
  clear hc h2 p1 cP
  go_wp2_with fail
  go_loopg [4] cs.length (fun k i wr => ∃ j : Nat, j + k = cs.length ∧ i = .int .i64 j ∧ wholeC cs = wholeC (cs.drop j) ∧ wr = w1)
  case atStart => exact ⟨0, by omega, rfl, rfl, rfl⟩
  case round =>
    obtain ⟨j, hj, rfl, hw, rfl⟩ := hrel
    have HJ := Lib.hid hj
    by_cases hlt : j < cs.length
    · have hg : 0 < gk := by omega
      obtain ⟨b, o, rfl, c0, c1, c2, c3⟩ := HC.out j hlt
      rw [List.drop_eq_getElem_cons hlt, wholeC_cons] at hw
      cases hok : cs[j].ok with
      | true =>
        rw [hok] at c3 hw
        rw [Bool.true_and] at hw
        have HWW := Lib.hid hw
        clear hj hw hok
        go_wp2_with fail
        go_roundg (gk - 1)
        case measure => omega
        case rel => exact ⟨j + 1, by have := HJ.out; omega, by go_num, HWW.out, rfl⟩
      | false =>
        rw [hok] at c3 hw
        rw [Bool.false_and] at hw
        have HWW := Lib.hid hw
        clear hj hw hok
        go_wp2_with fail
        go_ret
        exact ⟨by rw [HW.out, HWW.out]; rfl, x1⟩
    · have HWW := Lib.hid (show wholeC cs = true by rw [hw, List.drop_of_length_le (by omega)]; rfl)
      clear hj hw
      go_wp2_with fail
      go_ret
      exact ⟨by rw [HW.out, HWW.out]; rfl, x1⟩
set_option maxRecDepth 100000 in
theorem spec_Whole (s : ByteArray) (w : World) (hs : s.size ≤ 1099511627776) :
    Calls Tryd.prog 10 #[.string s] w (RetV (.bool (wholeB s.data.toList)) w) := by
  go_enter Tryd.func10, Tryd.ntmps10
  go_wp2_with (go_at_call 18; refine (spec_whole s w hs).mono ?_)
  rintro _ w1 ⟨rfl, x1⟩
  go_wp2_with fail
  go_ret
  exact ⟨rfl, x1⟩
end Go.Proofs.YtiahholgpbjjfaaDoor
