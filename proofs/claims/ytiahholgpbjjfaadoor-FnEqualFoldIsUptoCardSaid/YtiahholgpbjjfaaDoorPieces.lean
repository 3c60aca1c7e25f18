/- The walks of spec.follows, sequence, point and pieces. -/
import Derived.Test.YtiahholgpbjjfaaDoorSeq
import Derived.Test.YtiahholgpbjjfaaDoorVs
import Derived.Test.YtiahholgpbjjfaaDoorChecked
namespace Go.Proofs.YtiahholgpbjjfaaDoor
open Go.RowKit

theorem str_getD (s : ByteArray) (i : Nat) (h : i < s.size) : s.data.toList.getD i 0 = s[i] := by
  rw [List.getD_eq_getElem?_getD, List.getElem?_eq_getElem (by simpa using h)]
  rfl

theorem str_drop_getD (s : ByteArray) (i j : Nat) (h : i + j < s.size) : (s.data.toList.drop i).getD j 0 = s[i + j] := by
  rw [List.getD_eq_getElem?_getD, List.getElem?_drop, ← List.getD_eq_getElem?_getD]
  exact str_getD s (i + j) h

theorem all_take_succ {l : List UInt8} {j : Nat} {x : UInt8} (h : l[j]? = some x) (p : UInt8 → Bool) : (l.take (j + 1)).all p = ((l.take j).all p && p x) := by
  rw [List.take_succ_eq_append_getElem (List.getElem?_eq_some_iff.1 h).1, List.all_append]
  simp [(List.getElem?_eq_some_iff.1 h).2]

theorem spec_follows (s : ByteArray) (at_ k : Nat) (w : World) (hs : s.size ≤ 4611686018427387904) (ha : at_ ≤ s.size) (hk : k ≤ 4) :
    Calls Tryd.prog 38 #[.string s, .int .i64 at_, .int .i64 k] w fun e w' => e = .returned (.bool (foll (s.data.toList.drop at_) k)) ∧ w = w' := by
  have HL := Lib.hid (show (s.data.toList.drop at_).length = s.size - at_ by simp)
  by_cases hlen : at_ + k ≤ s.size
  · go_enter Tryd.func38, Tryd.ntmps38
    go_wp2_with fail
    go_loopg [7] k (fun n i wr => ∃ j : Nat, j + n = k ∧ i = .int .i64 ((at_ : Int) + (j : Int)) ∧ ((s.data.toList.drop at_).take j).all isCont = true ∧ w = wr)
    case atStart => exact ⟨0, by omega, by simp, rfl, rfl⟩
    case round =>
      obtain ⟨j, hj, rfl, hn, rfl⟩ := hrel
      have HN := Lib.hid hn
      have HJ := Lib.hid hj
      clear hn
      by_cases hlt : j < k
      · have hg : 0 < gk := by omega
        have hb : at_ + j < s.size := by omega
        obtain ⟨x, hx⟩ : ∃ x, s[at_ + j]'hb = x := ⟨_, rfl⟩
        have HX := Lib.hid (show (s.data.toList.drop at_)[j]? = some x by
          rw [List.getElem?_drop, List.getElem?_eq_getElem (by simpa using hb), ← hx]; rfl)
        have hx' : ∀ h, s[((at_ : Int) + (j : Int)).toNat]'h = x := by
          intro h
          rw [← hx]
          congr 1
        clear hj
        have hxl := x.toNat_lt
        by_cases h1 : x.toNat < 128
        · have HR := Lib.hid (show foll (s.data.toList.drop at_) k = false by
            unfold foll
            rw [Bool.and_eq_false_iff]; right
            rw [List.all_eq_false]
            refine ⟨x, ?_, by simp [isCont]; omega⟩
            exact List.mem_of_getElem? (i := j) (by rw [List.getElem?_take, if_pos hlt]; exact HX.out))
          go_wp2_with fail
          go_ret
          exact ⟨by rw [HR.out]; rfl, rfl⟩
        · by_cases h2 : 191 < x.toNat
          · have HR := Lib.hid (show foll (s.data.toList.drop at_) k = false by
              unfold foll
              rw [Bool.and_eq_false_iff]; right
              rw [List.all_eq_false]
              refine ⟨x, ?_, by simp [isCont]; omega⟩
              exact List.mem_of_getElem? (i := j) (by rw [List.getElem?_take, if_pos hlt]; exact HX.out))
            go_wp2_with fail
            go_ret
            exact ⟨by rw [HR.out]; rfl, rfl⟩
          · go_wp2_with fail
            go_roundg (gk - 1)
            case measure => omega
            case rel =>
              refine ⟨j + 1, by have := HJ.out; omega, by go_num, ?_, rfl⟩
              rw [all_take_succ HX.out, HN.out]
              simp [isCont]; omega
      · have HR := Lib.hid (show foll (s.data.toList.drop at_) k = true by
          unfold foll
          have hjk : j = k := by omega
          have h1 := HN.out
          rw [hjk] at h1
          rw [h1, HL.out]
          simp; omega)
        have hjk : j = k := by omega
        clear hj
        go_wp2_with fail
        go_ret
        exact ⟨by rw [HR.out]; rfl, rfl⟩
  · have HR := Lib.hid (show foll (s.data.toList.drop at_) k = false by
      unfold foll
      rw [Bool.and_eq_false_iff]; left
      rw [HL.out]
      simp; omega)
    go_enter Tryd.func38, Tryd.ntmps38
    go_wp2_with fail
    go_ret
    exact ⟨by rw [HR.out]; rfl, rfl⟩

set_option maxRecDepth 100000 in
set_option maxHeartbeats 2000000 in
theorem spec_sequence (s : ByteArray) (at_ : Nat) (w : World) (hs : s.size ≤ 4611686018427387904) (ha : at_ < s.size) :
    Calls Tryd.prog 35 #[.string s, .int .i64 at_] w fun e w' => e = .returned (.int .i64 (seqL (s.data.toList.drop at_))) ∧ w = w' := by
  have hs1 : at_ + 1 ≤ s.size := ha
  have k1 : Calls Tryd.prog 38 #[.string s, .int .i64 ((at_ : Int) + 1), .int .i64 1] w fun e w' => e = .returned (.bool (foll (s.data.toList.drop (at_ + 1)) 1)) ∧ w = w' := spec_follows s (at_ + 1) 1 w hs hs1 (by omega)
  have k2 : Calls Tryd.prog 38 #[.string s, .int .i64 ((at_ : Int) + 1), .int .i64 2] w fun e w' => e = .returned (.bool (foll (s.data.toList.drop (at_ + 1)) 2)) ∧ w = w' := spec_follows s (at_ + 1) 2 w hs hs1 (by omega)
  have k3 : Calls Tryd.prog 38 #[.string s, .int .i64 ((at_ : Int) + 1), .int .i64 3] w fun e w' => e = .returned (.bool (foll (s.data.toList.drop (at_ + 1)) 3)) ∧ w = w' := spec_follows s (at_ + 1) 3 w hs hs1 (by omega)
  obtain ⟨x, hx⟩ : ∃ x, s[at_]'ha = x := ⟨_, rfl⟩
  have hx0 : (s.data.toList.drop at_).getD 0 0 = x := by rw [str_drop_getD s at_ 0 ha]; exact hx
  have hd : (s.data.toList.drop at_).drop 1 = s.data.toList.drop (at_ + 1) := by rw [List.drop_drop]
  have hxl := x.toNat_lt
  obtain ⟨f1, e1⟩ : ∃ f, foll (s.data.toList.drop (at_ + 1)) 1 = f := ⟨_, rfl⟩
  obtain ⟨f2, e2⟩ : ∃ f, foll (s.data.toList.drop (at_ + 1)) 2 = f := ⟨_, rfl⟩
  obtain ⟨f3, e3⟩ : ∃ f, foll (s.data.toList.drop (at_ + 1)) 3 = f := ⟨_, rfl⟩
  have c2 : f2 = true → at_ + 1 < s.size := fun h => by
    rw [← e2, foll_two] at h
    have := h.1
    simp at this; omega
  have c3 : f3 = true → at_ + 1 < s.size := fun h => by
    rw [← e3, foll_three] at h
    have := h.1
    simp at this; omega
  obtain ⟨y, hy⟩ : ∃ y, (s.data.toList.drop at_).getD 1 0 = y := ⟨_, rfl⟩
  have hyv : ∀ h, s[at_ + 1]'h = y := fun h => by rw [← hy, str_drop_getD s at_ 1 h]
  have hyl := y.toNat_lt
  have HS := Lib.hid (show seqL (s.data.toList.drop at_) = seqN x.toNat y.toNat f1 f2 f3 by unfold seqL; rw [hx0, hy, hd, e1, e2, e3])
  rw [e1] at k1
  rw [e2] at k2
  rw [e3] at k3
  clear hx0 hy hd e1 e2 e3
  have go : ∀ (n : Nat), seqN x.toNat y.toNat f1 f2 f3 = n → seqL (s.data.toList.drop at_) = n := fun n h => HS.out.trans h
  clear HS
  by_cases h1 : x.toNat < 128
  · have HR := Lib.hid (go 1 (by simp [seqN, h1]))
    clear go k1 k2 k3
    go_enter Tryd.func35, Tryd.ntmps35
    go_wp2_with fail
    go_ret
    exact ⟨by rw [HR.out]; rfl, rfl⟩
  by_cases h2 : x.toNat < 194
  · have HR := Lib.hid (go 0 (by unfold seqN; (repeat' split) <;> first | rfl | omega))
    clear go k1 k2 k3
    go_enter Tryd.func35, Tryd.ntmps35
    go_wp2_with fail
    go_ret
    exact ⟨by rw [HR.out]; rfl, rfl⟩
  by_cases h3 : x.toNat ≤ 223
  · cases f1
    · have HR := Lib.hid (go 0 (by unfold seqN; (repeat' split) <;> first | rfl | omega | simp_all))
      clear go k2 k3
      go_enter Tryd.func35, Tryd.ntmps35
      go_wp2_with (go_at_call 38; refine k1.mono ?_; rintro e w' ⟨rfl, rfl⟩)
      go_ret
      exact ⟨by rw [HR.out]; rfl, rfl⟩
    · have HR := Lib.hid (go 2 (by unfold seqN; rw [if_neg h1, if_pos ⟨by omega, rfl⟩]))
      clear go k2 k3
      go_enter Tryd.func35, Tryd.ntmps35
      go_wp2_with (go_at_call 38; refine k1.mono ?_; rintro e w' ⟨rfl, rfl⟩)
      go_ret
      exact ⟨by rw [HR.out]; rfl, rfl⟩
  by_cases h4 : x.toNat ≤ 239
  · cases f2
    · have HR := Lib.hid (go 0 (by unfold seqN; (repeat' split) <;> first | rfl | omega | simp_all))
      clear go k1 k3
      go_enter Tryd.func35, Tryd.ntmps35
      go_wp2_with (go_at_call 38; refine k2.mono ?_; rintro e w' ⟨rfl, rfl⟩)
      go_ret
      exact ⟨by rw [HR.out]; rfl, rfl⟩
    · have hb := c2 rfl
      have hyb := hyv hb
      have q : seqN x.toNat y.toNat f1 true f3 = if x.toNat = 224 ∧ y.toNat < 160 ∨ x.toNat = 237 ∧ 159 < y.toNat then 0 else 3 := by
        unfold seqN; rw [if_neg h1, if_neg (by omega), if_pos ⟨by omega, rfl⟩]
      have HR := Lib.hid (go _ q)
      clear go k1 k3 q
      by_cases h5 : x.toNat = 224
      · by_cases h6 : y.toNat < 160
        · go_enter Tryd.func35, Tryd.ntmps35
          go_wp2_with (go_at_call 38; refine k2.mono ?_; rintro e w' ⟨rfl, rfl⟩)
          go_ret
          exact ⟨by rw [HR.out, if_pos (by omega)]; rfl, rfl⟩
        · go_enter Tryd.func35, Tryd.ntmps35
          go_wp2_with (go_at_call 38; refine k2.mono ?_; rintro e w' ⟨rfl, rfl⟩)
          go_ret
          exact ⟨by rw [HR.out, if_neg (by omega)]; rfl, rfl⟩
      · by_cases h7 : x.toNat = 237
        · by_cases h6 : 159 < y.toNat
          · go_enter Tryd.func35, Tryd.ntmps35
            go_wp2_with (go_at_call 38; refine k2.mono ?_; rintro e w' ⟨rfl, rfl⟩)
            go_ret
            exact ⟨by rw [HR.out, if_pos (by omega)]; rfl, rfl⟩
          · go_enter Tryd.func35, Tryd.ntmps35
            go_wp2_with (go_at_call 38; refine k2.mono ?_; rintro e w' ⟨rfl, rfl⟩)
            go_ret
            exact ⟨by rw [HR.out, if_neg (by omega)]; rfl, rfl⟩
        · go_enter Tryd.func35, Tryd.ntmps35
          go_wp2_with (go_at_call 38; refine k2.mono ?_; rintro e w' ⟨rfl, rfl⟩)
          go_ret
          exact ⟨by rw [HR.out, if_neg (by omega)]; rfl, rfl⟩
  by_cases h8 : x.toNat ≤ 244
  · cases f3
    · have HR := Lib.hid (go 0 (by unfold seqN; (repeat' split) <;> first | rfl | omega | simp_all))
      clear go k1 k2
      go_enter Tryd.func35, Tryd.ntmps35
      go_wp2_with (go_at_call 38; refine k3.mono ?_; rintro e w' ⟨rfl, rfl⟩)
      go_ret
      exact ⟨by rw [HR.out]; rfl, rfl⟩
    · have hb := c3 rfl
      have hyb := hyv hb
      have q : seqN x.toNat y.toNat f1 f2 true = if x.toNat = 240 ∧ y.toNat < 144 ∨ x.toNat = 244 ∧ 143 < y.toNat then 0 else 4 := by
        unfold seqN; rw [if_neg h1, if_neg (by omega), if_neg (by omega), if_pos ⟨by omega, rfl⟩]
      have HR := Lib.hid (go _ q)
      clear go k1 k2 q
      by_cases h5 : x.toNat = 240
      · by_cases h6 : y.toNat < 144
        · go_enter Tryd.func35, Tryd.ntmps35
          go_wp2_with (go_at_call 38; refine k3.mono ?_; rintro e w' ⟨rfl, rfl⟩)
          go_ret
          exact ⟨by rw [HR.out, if_pos (by omega)]; rfl, rfl⟩
        · go_enter Tryd.func35, Tryd.ntmps35
          go_wp2_with (go_at_call 38; refine k3.mono ?_; rintro e w' ⟨rfl, rfl⟩)
          go_ret
          exact ⟨by rw [HR.out, if_neg (by omega)]; rfl, rfl⟩
      · by_cases h7 : x.toNat = 244
        · by_cases h6 : 143 < y.toNat
          · go_enter Tryd.func35, Tryd.ntmps35
            go_wp2_with (go_at_call 38; refine k3.mono ?_; rintro e w' ⟨rfl, rfl⟩)
            go_ret
            exact ⟨by rw [HR.out, if_pos (by omega)]; rfl, rfl⟩
          · go_enter Tryd.func35, Tryd.ntmps35
            go_wp2_with (go_at_call 38; refine k3.mono ?_; rintro e w' ⟨rfl, rfl⟩)
            go_ret
            exact ⟨by rw [HR.out, if_neg (by omega)]; rfl, rfl⟩
        · go_enter Tryd.func35, Tryd.ntmps35
          go_wp2_with (go_at_call 38; refine k3.mono ?_; rintro e w' ⟨rfl, rfl⟩)
          go_ret
          exact ⟨by rw [HR.out, if_neg (by omega)]; rfl, rfl⟩
  · have HR := Lib.hid (go 0 (by unfold seqN; (repeat' split) <;> first | rfl | omega))
    clear go k1 k2 k3
    go_enter Tryd.func35, Tryd.ntmps35
    go_wp2_with fail
    go_ret
    exact ⟨by rw [HR.out]; rfl, rfl⟩
end Go.Proofs.YtiahholgpbjjfaaDoor
