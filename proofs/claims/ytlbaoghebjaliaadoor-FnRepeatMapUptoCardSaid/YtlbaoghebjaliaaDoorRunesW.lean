/- utf8.RuneCount, bytes.Runes, impl.Runes, spec.Runes. -/
import Derived.Test.YtlbaoghebjaliaaDoorDec
import Derived.Test.YtlbaoghebjaliaaDoorExactM
import Derived.Test.YtlbaoghebjaliaaDoorSub
import Derived.Shelf.Spec.RuneCount
namespace Go.Proofs.YtlbaoghebjaliaaDoor
open Go.RowKit

theorem decode_dec (l : List UInt8) (i : Nat) (h : i < l.length) : Utf8.decode ⟨l.toArray⟩ i = dec (l.drop i) := by
  have hs : (⟨l.toArray⟩ : ByteArray).size = l.length := rfl
  rw [Lib.decode_at, hs]
  rw [← Lib.getD_get!, ← Lib.getD_get!, ← Lib.getD_get!, ← Lib.getD_get!]
  show Lib.decodeN _ (l.toArray.toList.getD i 0).toNat (l.toArray.toList.getD (i + 1) 0).toNat (l.toArray.toList.getD (i + 2) 0).toNat (l.toArray.toList.getD (i + 3) 0).toNat = _
  have e : ∀ k, l.getD (i + k) 0 = (l.drop i).getD k 0 := by
    intro k
    simp only [List.getD_eq_getElem?_getD, List.getElem?_drop]
  have e0 := e 0
  rw [Nat.add_zero] at e0
  rw [e0, e 1, e 2, e 3]
  cases hd : l.drop i with
  | nil =>
    have := congrArg List.length hd
    simp at this; omega
  | cons b t =>
    have hl : l.length - i = t.length + 1 := by
      have := congrArg List.length hd
      simpa using this
    rw [hl]
    rfl

theorem runeCount_from (l : List UInt8) : ∀ (fuel i : Nat), l.length ≤ i + fuel → Lib.runeCountFrom ⟨l.toArray⟩ fuel i = (chunks (l.drop i)).length
  | 0, i, h => by
    rw [List.drop_of_length_le (by omega)]; rfl
  | f + 1, i, h => by
    unfold Lib.runeCountFrom
    have hs : (⟨l.toArray⟩ : ByteArray).size = l.length := rfl
    by_cases hi : i < l.length
    · have hne : l.drop i ≠ [] := by
        intro e
        have := congrArg List.length e
        simp at this; omega
      have hsz := dec_size hne
      rw [if_pos (by rw [hs]; exact hi), decode_dec l i hi, runeCount_from l f _ (by omega), chunks_cons hne, List.drop_drop, List.length_cons]
      omega
    · rw [if_neg (by rw [hs]; exact hi), List.drop_of_length_le (by omega)]; rfl

theorem runeCount_chunks (l : List UInt8) : Lib.runeCount ⟨l.toArray⟩ = (chunks l).length := by
  have := runeCount_from l l.length 0 (by omega)
  rw [List.drop_zero] at this
  exact this

theorem utf8_RuneCount (v : Value) (l : List UInt8) (w : World) (h : Bs w v l) (hs : l.length ≤ 4611686018427387904) :
    Calls Tryd.prog 95 #[v] w (RetV (.int .i64 ((chunks l).length : Int)) w) := by
  by_cases hl : l = []
  · subst hl
    obtain ⟨a, c, rfl, _, _⟩ := h.shape
    go_enter Tryd.func95, Tryd.ntmps95
    go_wp2_with fail
    go_loopg [4] 0 (fun k i wr => i = .int .i64 0 ∧ w = wr)
    case atStart => exact ⟨rfl, rfl⟩
    case round =>
      obtain ⟨rfl, rfl⟩ := hrel
      go_wp2_with fail
      go_ret
      exact ⟨rfl, Ext.refl _⟩
  · obtain ⟨b, o, c, rfl, h1, h2, hp⟩ := bs_cells h hl
    have := Any7.utf8_RuneCount Tryd.lays31 ⟨l.toArray⟩ b o c w h1 hp (by show l.length < _; omega)
    rw [runeCount_chunks] at this
    refine this.mono fun _ _ ⟨he, hb⟩ => ⟨he, ?_⟩
    rcases hb with rfl | ⟨t, pos, rfl⟩
    · exact Ext.refl _
    · exact Ext.alloc _ _

theorem runesOf_take (cs : List Ch) (j : Nat) : runesOf (cs.take j) = (runesOf cs).take j := by simp [runesOf]
theorem runesOf_length (cs : List Ch) : (runesOf cs).length = cs.length := by simp [runesOf]

set_option maxRecDepth 100000 in
theorem bytes_Runes (v : Value) (l : List UInt8) (w : World) (h : Bs w v l) (hT : Tabs w) (hlim : l.length ≤ 70368744177664) :
    Calls Tryd.prog 75 #[v] w (RetOwnI w (runesOf (chunks l))) := by
  have hcl := chunks_length l
  obtain ⟨cs, HCS, HPL, HDE, HPE, HPA, HLA, HPN, HRG⟩ := chunk_facts l
  have cR := utf8_RuneCount v l w h (by omega)
  rw [HCS.out] at cR hcl ⊢
  have hlc : cs.length ≤ 70368744177664 := by omega
  have HT := Lib.hid hT
  have HBS := Lib.hid h
  have HLN := Lib.hid (runesOf_length cs)
  clear h hT
  go_enter Tryd.func75, Tryd.ntmps75
  go_wp2_with (go_at_call 95; refine cR.mono ?_)
  rintro _ w1 ⟨rfl, x1⟩
  go_wp2_with (refine wpList_mkInts rfl 22 _ _ rfl 21 Tryd.underlying22 info_i32 cs.length _ _ rfl rfl hlc ?_)
  intro w2 r2 x2 _
  obtain ⟨g, hg⟩ : ∃ g, w1.heap.size = g := ⟨_, rfl⟩
  rw [hg] at r2 ⊢
  have hgw : w.heap.size ≤ g := by rw [← hg]; exact x1.size
  have HG := Lib.hid hg
  have X2 := x1.trans x2
  clear hg x1 x2
  go_wp2_with fail
  go_loopg [0, 4] cs.length (fun k v i wr => ∃ j : Nat, j + k = cs.length ∧ i = .int .i64 j ∧ Bs w v (l.drop (placeOf cs j)) ∧ RowI wr g ((runesOf cs).take j ++ List.replicate (cs.length - j) 0) ∧ Ext w wr)
  case atStart => exact ⟨0, by omega, rfl, by have := HBS.out; simpa [placeOf, glue] using this, by simpa using r2, X2⟩
  case round =>
    obtain ⟨j, hj, rfl, hb, hrow, hx⟩ := hrel
    clear X2 r2
    have HJ := Lib.hid hj
    obtain ⟨a, c, hsv, hcap, hcm⟩ := hb.shape
    have hpn := HPN.out j
    by_cases hlt : j < cs.length
    · have hg0 : 0 < gk := by omega
      have hj1 : j + 1 ≤ cs.length := hlt
      obtain ⟨hne, hdec⟩ := HDE.out j hlt
      have hpe := HPE.out j hlt
      have hle := HPN.out (j + 1)
      have hrg := HRG.out j hlt
      obtain ⟨p, hp⟩ : ∃ p, placeOf cs j = p := ⟨_, rfl⟩
      rw [hp] at hne hdec hpe hsv hb hcap hpn
      have hpos : 0 < (l.drop p).length := List.length_pos_iff.2 hne
      have hdl : (l.drop p).length = l.length - p := by simp
      have hsz : cs[j].bs.length ≤ (l.drop p).length := by rw [hdl]; omega
      obtain ⟨z, g2⟩ : ∃ z, wr.cell? ⟨g, j, none⟩ = some z := ⟨_, hrow.cell j (by simp [HLN.out]; omega)⟩
      have g3 := hrow.frozen j
      have hnew := hrow.set j (cs[j].r : Int)
      have hrl : j < (runesOf cs).length := by rw [HLN.out]; exact hlt
      have hst := copied_stepI (runesOf cs) j hrl
      have hrj : (runesOf cs)[j] = (cs[j].r : Int) := by simp [runesOf]
      rw [hrj, HLN.out] at hst
      rw [hst] at hnew
      have HN := Lib.hid hnew
      have HE := Lib.hid (show l.drop (p + cs[j].bs.length) = (l.drop p).drop cs[j].bs.length by rw [List.drop_drop])
      have HPE2 := Lib.hid hpe
      obtain ⟨q, hq⟩ : ∃ q, l.drop p = q := ⟨_, rfl⟩
      rw [hq] at hne hdec hsv hb hcap hpos hsz HE hdl
      have cD := utf8_DecodeRune _ _ _ (hb.ext hx) hne (HT.out.ext hx)
      rw [hdec] at cD
      have HX := Lib.hid hx
      have HB := Lib.hid hb
      have HR := Lib.hid hrow
      clear hst hj hnew hrow hdec hne hpe hdl hp hrj hx hb hq
      subst hsv
      go_wp2_with (go_at_call 78; refine cD.mono ?_)
      rintro _ w3 ⟨rfl, x3⟩
      replace g2 := x3.cell g2
      have g3 : w3.frozen? ⟨g, j, none⟩ = false := (HR.out.ext x3).frozen j
      have n3 : RowI (w3.setCell ⟨g, j, none⟩ (.int .i32 (cs[j].r : Int))) g ((runesOf cs).take (j + 1) ++ List.replicate (cs.length - (j + 1)) 0) := by
        have := (HR.out.ext x3).set j (cs[j].r : Int)
        have hst := copied_stepI (runesOf cs) j hrl
        rw [HLN.out] at hst
        have hrj : (runesOf cs)[j] = (cs[j].r : Int) := by simp [runesOf]
        rw [hrj] at hst
        rwa [hst] at this
      have HN3 := Lib.hid n3
      have x4 : Ext w (w3.setCell ⟨g, j, none⟩ (.int .i32 (cs[j].r : Int))) := ⟨(HX.out.trans x3).below.setCell hgw _⟩
      have HX4 := Lib.hid x4
      clear n3 x4
      go_wp2_with (refine wpList_subLW rfl 30 _ _ rfl 5 Tryd.underlying30 info_u8' _ _ w rfl HB.out _ _ rfl cs[j].bs.length rfl hsz ?_)
      intro v5 b5
      rw [← HE.out, HPE2.out] at b5
      go_wp2_with fail
      go_roundg (gk - 1)
      case measure => omega
      case rel => exact ⟨j + 1, by have := HJ.out; omega, by go_num, b5, HN3.out, HX4.out⟩
    · have hje : j = cs.length := by omega
      subst hje
      have h0 : (l.drop (placeOf cs cs.length)).length = 0 := by rw [List.length_drop, HPA.out]; omega
      rw [h0] at hsv
      subst hsv
      have HR := Lib.hid hrow
      clear hj hrow h0 hb hcap
      go_wp2_with fail
      go_ret
      have hr := HR.out
      rw [List.take_of_length_le (by rw [HLN.out]; exact Nat.le_refl _), Nat.sub_self, List.replicate_zero, List.append_nil] at hr
      have e := HLN.out
      refine ⟨_, rfl, ?_, hx⟩
      have := hr.own hgw hr.lt cs.length (by rw [e]; exact Nat.le_refl _) (by unfold maxLen; omega)
      rwa [e] at this
theorem runes_len (l : List UInt8) : (runesOf (chunks l)).length ≤ l.length := by
  rw [runesOf_length]; exact chunks_length l
theorem impl_Runes (v : Value) (l : List UInt8) (w : World) (h : Bs w v l) (hT : Tabs w) (hlim : l.length ≤ 70368744177664) :
    Calls Tryd.prog 46 #[v] w (RetOwnI w (runesOf (chunks l))) := by
  go_enter Tryd.func46, Tryd.ntmps46
  go_wp2_with (go_at_call 75; refine (bytes_Runes v l w h hT hlim).mono ?_)
  rintro _ w1 ⟨v1, rfl, o1, x1⟩
  go_wp2_with fail
  go_ret
  exact ⟨_, rfl, o1, x1⟩
theorem owns_ownI {B : Nat} {e : TypeId} {w : World} {v : Value} {rs : List Int} (h : w.ownsRow B e 1 v rs.length (rs.map (Value.int .i32))) : OwnI B w.heap.size w v rs := by
  have hlt := owns_lt h
  obtain ⟨h1, h2⟩ := h
  rcases h2 with ⟨rfl, h0⟩ | ⟨g, cap, cur, rfl, hg, hh, hn, hc, hs, ht⟩
  · have : rs = [] := List.eq_nil_of_length_eq_zero h0
    subst this
    exact ⟨none, 0, rfl, Nat.le_refl _, Nat.zero_le _, .inl rfl⟩
  · refine ⟨_, cap, rfl, hn, hc, .inr ⟨g, 0, rfl, hg, (hlt g rfl).2, fun i hi => ⟨?_, ?_⟩⟩⟩
    · rw [Nat.zero_add]
      have e1 : cur[i]? = some (.int .i32 rs[i]) := by
        have e2 : (rs.map (Value.int .i32))[i]? = some (.int .i32 rs[i]) := by simp [hi]
        rw [← ht, List.getElem?_take] at e2
        rw [if_pos (by omega)] at e2
        simpa using e2
      simp [World.cell?, hh, e1]
    · simp [World.frozen?, hh]
/-- A call's answer: a row of its own. -/
def RetRow (w : World) (T : TypeId) (size n : Nat) (xs : List Value) (e : Ending) (w' : World) : Prop := ∃ v, e = .returned v ∧ w'.ownsRow w.heap.size T size v n xs ∧ Ext w w'
end Go.Proofs.YtlbaoghebjaliaaDoor
