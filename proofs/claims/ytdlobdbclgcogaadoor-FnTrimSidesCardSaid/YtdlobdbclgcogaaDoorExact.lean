/- Contracts of the helpers of the exact laws: a copy of a slice of bytes, the comparison of two, marks written into one, marks read again. Conditions: lengths within 2^48 bytes. -/
import Derived.Test.YtdlobdbclgcogaaDoorBase
import Derived.Test.YtdlobdbclgcogaaDoorRows
namespace Go.Proofs.YtdlobdbclgcogaaDoor
open Go.RowKit

theorem info_u8 : (Tryd.prog.info? 5).map (fun i => (i.zero, i.size, i.bytes)) = some (some (.int .u8 0), 1, 1) := by kernel_rfl

/-- What has been copied so far. -/
theorem copied_step (l : List UInt8) (j : Nat) (hj : j < l.length) : ((l.take j ++ List.replicate (l.length - j) 0).set j l[j]) = l.take (j + 1) ++ List.replicate (l.length - (j + 1)) 0 := by
  have e : l.length - j = (l.length - (j + 1)) + 1 := by omega
  rw [e, List.replicate_succ, List.set_append_right _ _ (by simp; omega)]
  simp only [List.length_take, Nat.min_eq_left (Nat.le_of_lt hj), Nat.sub_self, List.set_cons_zero]
  rw [List.take_succ_eq_append_getElem hj, List.append_assoc]
  simp

theorem laws_toByteS (v : Value) (l : List UInt8) (w : World) (h : Bs w v l) (hl : l.length ≤ 281474976710656) :
    Calls Tryd.prog 21 #[v] w (RetOwn w l) := by
  obtain ⟨a, c, rfl, h1, h2, h3⟩ := h
  have hc2 : c ≤ 9223372036854775807 := by unfold maxLen at h2; omega
  clear h2
  go_enter Tryd.func21, Tryd.ntmps21
  go_wp2_with (refine wpList_mkBytes rfl 24 _ _ rfl 5 Tryd.underlying24 info_u8 l.length _ _ rfl rfl hl ?_)
  intro w1 r1 x1 _
  go_wp2_with fail
  go_loopg [4] l.length (fun k i wr => ∃ j : Nat, j + k = l.length ∧ i = .int .i64 j ∧ RowB wr w.heap.size (l.take j ++ List.replicate (l.length - j) 0) ∧ Ext w wr)
  case atStart => exact ⟨0, by omega, rfl, by simpa using r1, x1⟩
  case round =>
    obtain ⟨j, hj, rfl, hrow, hx⟩ := hrel
    have HJ := Lib.hid hj
    by_cases hlt : j < l.length
    · rcases h3 with h3 | ⟨b, o, rfl, hcell⟩
      · subst h3; simp at hlt
      have g1 := hx.cell (hcell j hlt)
      obtain ⟨z, g2⟩ : ∃ z, wr.cell? ⟨w.heap.size, j, none⟩ = some z := ⟨_, hrow.cell j (by simp; omega)⟩
      have g3 := hrow.frozen j
      have hst := copied_step l j hlt
      have hnew := hrow.set j l[j]
      rw [hst] at hnew
      have hg : 0 < gk := by omega
      clear hst hj hcell
      go_wp2_with fail
      go_roundg (gk - 1)
      case measure => omega
      case rel => exact ⟨j + 1, by have := HJ.out; omega, by go_num, hnew, ⟨hx.below.setCell (Nat.le_refl _) _⟩⟩
    · have hjl : j = l.length := by omega
      subst hjl
      clear hj
      go_wp2_with fail
      go_ret
      refine ⟨_, rfl, ?_, hx⟩
      have : RowB wr w.heap.size l := by simpa using hrow
      exact this.own (Nat.le_refl _) this.lt _ (Nat.le_refl _) (by unfold maxLen; omega)

/-- Two slices of bytes are the same, byte by byte. -/
theorem laws_eqByteS (v1 v2 : Value) (l1 l2 : List UInt8) (w : World) (h1 : Bs w v1 l1) (h2 : Bs w v2 l2) :
    Calls Tryd.prog 23 #[v1, v2] w fun e w' => e = .returned (.bool (decide (l1 = l2))) ∧ Ext w w' := by
  obtain ⟨a1, c1, rfl, h11, h12, h13⟩ := h1
  obtain ⟨a2, c2, rfl, h21, h22, h23⟩ := h2
  have hc1 : c1 ≤ 9223372036854775807 := by unfold maxLen at h12; omega
  have hc2 : c2 ≤ 9223372036854775807 := by unfold maxLen at h22; omega
  clear h12 h22
  by_cases hlen : l1.length = l2.length
  case neg =>
    have hne : ((l1.length : Int) != (l2.length : Int)) = true := by rw [bne_iff_ne]; omega
    have hd : decide (l1 = l2) = false := by rw [decide_eq_false_iff_not]; exact fun e => hlen (e ▸ rfl)
    rw [hd]
    clear hd
    go_enter Tryd.func23, Tryd.ntmps23
    go_wp2_with fail
    go_ret
    exact ⟨rfl, Ext.refl _⟩
  have hne : ((l1.length : Int) != (l2.length : Int)) = false := by rw [bne_eq_false_iff_eq]; omega
  have HL := Lib.hid hlen
  clear hlen
  go_enter Tryd.func23, Tryd.ntmps23
  go_wp2_with fail
  go_loopg [5] l1.length (fun k i wr => ∃ j : Nat, j + k = l1.length ∧ i = .int .i64 j ∧ l1.take j = l2.take j ∧ Ext w wr)
  case atStart => exact ⟨0, by omega, rfl, rfl, Ext.refl _⟩
  case round =>
    obtain ⟨j, hj, rfl, htk, hx⟩ := hrel
    have HJ := Lib.hid hj
    have HT := Lib.hid htk
    clear htk
    by_cases hlt : j < l1.length
    · have hlt2 : j < l2.length := by rw [← HL.out]; exact hlt
      have hg : 0 < gk := by omega
      rcases h13 with h13 | ⟨b1, o1, rfl, hcell1⟩
      · subst h13; simp at hlt
      rcases h23 with h23 | ⟨b2, o2, rfl, hcell2⟩
      · subst h23; simp at hlt2
      have g1 := hx.cell (hcell1 j hlt)
      have g2 := hx.cell (hcell2 j hlt2)
      have i1 : (j : Int) < (l1.length : Int) := by omega
      have i2 : (j : Int) < (l2.length : Int) := by omega
      clear hj hcell1 hcell2
      by_cases heq : l1[j] = l2[j]
      · have hb : (((l1[j].toNat : Nat) : Int) != ((l2[j].toNat : Nat) : Int)) = false := by rw [heq]; simp
        have HE := Lib.hid heq
        clear heq
        go_wp2_with fail
        go_quiet (fail)
        go_wp2_with fail
        go_roundg (gk - 1)
        case measure => omega
        case rel => exact ⟨j + 1, by have := HJ.out; omega, by go_num, by rw [List.take_succ_eq_append_getElem hlt, List.take_succ_eq_append_getElem hlt2, HT.out, HE.out], hx.trans (Ext.drewN _ _)⟩
      · have hb : (((l1[j].toNat : Nat) : Int) != ((l2[j].toNat : Nat) : Int)) = true := by
          rw [bne_iff_ne]; intro h; exact heq (UInt8.toNat_inj.1 (by omega))
        have hd : decide (l1 = l2) = false := by rw [decide_eq_false_iff_not]; intro e; apply heq; simp [e]
        have HD := Lib.hid hd
        clear heq hd
        go_wp2_with fail
        go_quiet (fail)
        go_wp2_with fail
        go_ret
        exact ⟨by rw [HD.out]; rfl, hx.trans (Ext.drewN _ _)⟩
    · have hd : decide (l1 = l2) = true := by
        have e1 := HT.out
        rw [List.take_of_length_le (by omega), List.take_of_length_le (by have := HL.out; omega)] at e1
        simpa using e1
      have HD := Lib.hid hd
      clear hj hd
      go_wp2_with fail
      go_ret
      exact ⟨by rw [HD.out]; rfl, hx⟩

theorem laws_eqByteS_same (v1 v2 : Value) (l : List UInt8) (w : World) (h1 : Bs w v1 l) (h2 : Bs w v2 l) :
    Calls Tryd.prog 23 #[v1, v2] w (RetV (.bool true) w) := by
  refine (laws_eqByteS v1 v2 l l w h1 h2).mono ?_
  rintro e w' ⟨rfl, x⟩
  exact ⟨by rw [decide_eq_true rfl], x⟩

/-- The marks k, k + 1, .. as bytes. -/
def marks (k n : Nat) : List UInt8 := (List.range n).map fun i => (k + i).toUInt8

theorem marks_length (k n : Nat) : (marks k n).length = n := by simp [marks]
theorem marks_succ (k n : Nat) : marks k (n + 1) = marks k n ++ [(k + n).toUInt8] := by simp [marks, List.range_succ]
theorem marks_get (k n i : Nat) (h : i < (marks k n).length) : (marks k n)[i] = (k + i).toUInt8 := by simp [marks]

/-- The bytes l lie from o on in block b, and may be written. -/
def RowAt (w : World) (b o : Nat) (l : List UInt8) : Prop := ∀ i (h : i < l.length), w.cell? ⟨b, o + i, none⟩ = some (.int .u8 (l[i].toNat : Int)) ∧ w.frozen? ⟨b, o + i, none⟩ = false

theorem RowAt.set {w : World} {b o : Nat} {l : List UInt8} (h : RowAt w b o l) (j : Nat) (x : UInt8) (_hj : j < l.length) : RowAt (w.setCell ⟨b, o + j, none⟩ (.int .u8 (x.toNat : Int))) b o (l.set j x) := by
  intro i hi
  have hi' : i < l.length := by simpa using hi
  obtain ⟨h1, h2⟩ := h i hi'
  refine ⟨?_, by rw [World.frozen?_setCell]; exact h2⟩
  by_cases e : j = i
  · subst e
    rw [World.cell?_setCell_same _ _ _ h1]
    simp
  · rw [World.cell?_setCell_other _ _ _ _ (by simp), h1]
    simp [e]

theorem u8_mark (n : Nat) : ((n.toUInt8.toNat : Nat) : Int) = (n : Int) % 256 := by
  simp [Nat.toUInt8, UInt8.toNat_ofNat']

theorem marked_step (l : List UInt8) (k j : Nat) (hj : j < l.length) : ((marks k j ++ l.drop j).set j (k + j).toUInt8) = marks k (j + 1) ++ l.drop (j + 1) := by
  rw [List.set_append_right _ _ (by simp [marks_length]), marks_length, Nat.sub_self, List.drop_eq_getElem_cons hj, List.set_cons_zero, marks_succ, List.append_assoc]
  rfl

/-- A mark's answer. -/
def RetMark (lo hi : Nat) (v : Value) (K : Int) (k n : Nat) (w : World) (e : Ending) (w' : World) : Prop :=
  e = .returned (.int .i64 (K + (n : Int))) ∧ Own lo hi w' v (marks k n) ∧ Fr lo hi w w'

theorem laws_markByteS (v : Value) (l : List UInt8) (K : Int) (k lo hi : Nat) (w : World) (h : Own lo hi w v l) (hK : K = (k : Int)) (hk : k + l.length ≤ 4611686018427387904) :
    Calls Tryd.prog 24 #[v, .int .i64 K] w (RetMark lo hi v K k l.length w) := by
  subst hK
  obtain ⟨a, c, rfl, h1, h2, h3⟩ := h
  by_cases hl : l = []
  · subst hl
    simp only [List.length_nil]
    go_enter Tryd.func24, Tryd.ntmps24
    go_wp2_with fail
    go_loopg [1, 5] 0 (fun gk q i wr => i = .int .i64 0 ∧ q = .int .i64 (k : Int) ∧ w = wr)
    case atStart => exact ⟨rfl, rfl, rfl⟩
    case round =>
      obtain ⟨rfl, rfl, rfl⟩ := hrel
      go_wp2_with fail
      go_ret
      exact ⟨by simp only [Int.natCast_zero, Int.add_zero]; rfl, ⟨a, c, rfl, Nat.zero_le _, h2, .inl rfl⟩, Fr.refl _ _ _⟩
  obtain ⟨b, o, rfl, b1, b2, hc⟩ := h3.resolve_left hl
  have hc' : RowAt w b o l := hc
  have hne : 0 < l.length := List.length_pos_iff.2 hl
  clear h3 hc hl
  go_enter Tryd.func24, Tryd.ntmps24
  go_wp2_with fail
  go_loopg [1, 5] l.length (fun gk q i wr => ∃ j : Nat, j + gk = l.length ∧ i = .int .i64 j ∧ q = .int .i64 ((k : Int) + (j : Int)) ∧ RowAt wr b o (marks k j ++ l.drop j) ∧ Fr lo hi w wr)
  case atStart => exact ⟨0, by omega, rfl, by simp, by simpa [marks] using hc', Fr.refl _ _ _⟩
  case round =>
    obtain ⟨j, hj, rfl, rfl, hr, hx⟩ := hrel
    have HJ := Lib.hid hj
    by_cases hlt : j < l.length
    · have hg : 0 < gk := by omega
      have hjm : j < (marks k j ++ l.drop j).length := by simp [marks_length]; omega
      obtain ⟨z, g1⟩ : ∃ z, wr.cell? ⟨b, o + j, none⟩ = some z := ⟨_, (hr j hjm).1⟩
      have g2 : wr.frozen? ⟨b, o + j, none⟩ = false := (hr j hjm).2
      have hnew := hr.set j (k + j).toUInt8 hjm
      rw [marked_step l k j hlt, u8_mark] at hnew
      have HN := Lib.hid hnew
      have HR := Lib.hid hr
      clear hj hnew hr hjm
      go_wp2_with fail
      go_roundg (gk - 1)
      case measure => omega
      case rel =>
        refine ⟨j + 1, by have := HJ.out; omega, by go_num, by go_num, ?_, ?_⟩
        · have := HN.out
          rw [show (((k + j : Nat) : Int)) = (k : Int) + (j : Int) by omega] at this
          first | exact this | simpa [IntKind.wrap_u8] using this
        · exact hx.trans (Fr.setCell b1 b2 _)
    · have ejl : j = l.length := by omega
      subst ejl
      have HR := Lib.hid hr
      clear hj hr
      go_wp2_with fail
      go_ret
      refine ⟨rfl, ?_, hx⟩
      have hr := HR.out
      simp only [List.drop_length, List.append_nil] at hr
      have e1 := marks_length k l.length
      exact ⟨_, c, by rw [e1], by rw [e1]; exact h1, h2, .inr ⟨b, o, rfl, b1, b2, hr⟩⟩

theorem laws_heldByteS (v : Value) (K : Int) (k n : Nat) (w : World) (h : Bs w v (marks k n)) (hK : K = (k : Int)) (hk : k + n ≤ 4611686018427387904) :
    Calls Tryd.prog 25 #[v, .int .i64 K] w (RetV (.int .i64 (K + (n : Int))) w) := by
  subst hK
  have hml := marks_length k n
  obtain ⟨a, c, rfl, h1, h2, h3⟩ := h
  have HM := Lib.hid hml
  rw [hml] at h1 ⊢
  clear hml
  go_enter Tryd.func25, Tryd.ntmps25
  go_wp2_with fail
  go_loopg [1, 5] n (fun gk q i wr => ∃ j : Nat, j + gk = n ∧ i = .int .i64 j ∧ q = .int .i64 ((k : Int) + (j : Int)) ∧ w = wr)
  case atStart => exact ⟨0, by omega, rfl, by simp, rfl⟩
  case round =>
    obtain ⟨j, hj, rfl, rfl, rfl⟩ := hrel
    have HJ := Lib.hid hj
    by_cases hlt : j < n
    · have hg : 0 < gk := by omega
      have hjm : j < (marks k n).length := by have := HM.out; omega
      rcases h3 with h3 | ⟨b, o, rfl, hc⟩
      · rw [h3] at hjm; simp at hjm
      have g1 := hc j hjm
      rw [marks_get, u8_mark] at g1
      have g2 : w.cell? ⟨b, o + j, none⟩ = some (.int .u8 (((k : Int) + (j : Int)) % 256)) := by rw [g1]; simp
      have e1 : ((((k : Int) + (j : Int)) % 256) != (((k : Int) + (j : Int)) % 256)) = false := by simp
      clear hj hc g1
      go_wp2_with fail
      go_roundg (gk - 1)
      case measure => omega
      case rel => exact ⟨j + 1, by have := HJ.out; omega, by go_num, by go_num, rfl⟩
    · have ejl : j = n := by omega
      subst ejl
      clear hj
      go_wp2_with fail
      go_ret
      exact ⟨rfl, Ext.refl _⟩

end Go.Proofs.YtdlobdbclgcogaaDoor
