/- The walks of bytes.Map and impl.Map; the code points of a text. -/
import Derived.Test.YtiahholgpbjjfaaDoorTableW
import Derived.Test.YtiahholgpbjjfaaDoorMend
import Derived.Shelf.Utf8.AppendRunePlain
import Derived.Deep.DeepCutAuto
namespace Go.Proofs.YtiahholgpbjjfaaDoor
open Go.RowKit

theorem encodeRune_enc {r : Int} (h : 0 ≤ r) : Lib.encodeRune r = encN r.toNat := by
  obtain ⟨n, rfl⟩ := Int.eq_ofNat_of_zero_le h
  rw [Int.toNat_natCast]
  unfold Lib.encodeRune encN normN
  by_cases hs : scalarN n
  · rw [if_pos hs]
    unfold scalarN at hs
    unfold encS
    by_cases h1 : n < 128
    · rw [if_pos h1, Lib.encodeRuneZ_one (by omega) (by omega)]
      simp
    · rw [if_neg h1]
      by_cases h2 : n < 2048
      · rw [if_pos h2, Lib.encodeRuneZ_two (by omega) (by omega)]
        simp only [List.map_cons, List.map_nil]
        rw [show (192 + (n : Int) / 64).toNat = 192 + n / 64 by omega, show (128 + (n : Int) % 64).toNat = 128 + n % 64 by omega]
      · rw [if_neg h2]
        by_cases h3 : n < 65536
        · rw [if_pos h3, Lib.encodeRuneZ_three (by omega)]
          simp only [List.map_cons, List.map_nil]
          rw [show (224 + (n : Int) / 4096).toNat = 224 + n / 4096 by omega, show (128 + (n : Int) / 64 % 64).toNat = 128 + n / 64 % 64 by omega, show (128 + (n : Int) % 64).toNat = 128 + n % 64 by omega]
        · rw [if_neg h3, Lib.encodeRuneZ_four (by omega) (by omega)]
          simp only [List.map_cons, List.map_nil]
          rw [show (240 + (n : Int) / 262144).toNat = 240 + n / 262144 by omega, show (128 + (n : Int) / 4096 % 64).toNat = 128 + n / 4096 % 64 by omega, show (128 + (n : Int) / 64 % 64).toNat = 128 + n / 64 % 64 by omega, show (128 + (n : Int) % 64).toNat = 128 + n % 64 by omega]
  · rw [if_neg hs, Lib.encodeRuneZ_bad (by unfold scalarN at hs; omega)]
    decide

theorem byteCells_bcells (l : List UInt8) : Lib.byteCells l = bcells l := rfl

/-- A call's answer: a slice of the call's own that has grown. -/
def RetBuf (B : Nat) (w : World) (l : List UInt8) (e : Ending) (w' : World) : Prop := ∃ v, e = .returned v ∧ Buf B 5 w' v l ∧ Below B w w'

theorem utf8_AppendRune (B : Nat) (v : Value) (l : List UInt8) (r : Int) (h0 : 0 ≤ r) (h1 : r ≤ 2147483647) (w : World) (h : Buf B 5 w v l) (hl : l.length + 4 ≤ 140737488355328) (hB : B ≤ w.heap.size) :
    Calls Tryd.prog 29 #[v, .int .i32 r] w (RetBuf B w (l ++ encN r.toNat)) := by
  refine (Any.utf8_AppendRune_plain Tryd.lays242 info_u8' B v l.length (bcells l) r (by omega) h1 w h hl hB).mono ?_
  rintro e w' ⟨v', rfl, o1, o, g⟩
  have hc : Lib.runeCells r = bcells (encN r.toNat) := by rw [← Lib.byteCells_encodeRune, encodeRune_enc h0]; rfl
  refine ⟨v', rfl, ?_, ?_⟩
  · unfold Buf
    rw [bcells_append, List.length_append, ← hc]
    have e1 : (encN r.toNat).length = (Lib.runeCells r).length := by rw [hc]; simp [bcells]
    rw [e1]
    exact o1
  · exact (h.keep (Ext.alloc w o)).grown g (by simp; omega) ((Ext.alloc w o).below.mono hB) (Nat.le_refl _)

set_option maxRecDepth 100000 in
set_option maxHeartbeats 4000000 in
theorem bytes_Map (tv sv : Value) (rows : List (Int × Int)) (l : List UInt8) (w : World) (ht : Ts w tv rows) (hb : Bs w sv l) (hT : Tabs w) (hl : l.length ≤ 17592186044416) (hR : ∀ r, 0 ≤ r → r ≤ 1114111 → imageT rows r ≤ 2147483647) :
    Calls Tryd.prog 21 #[.func (.func 22) #[.agg #[tv]] #[], sv] w (RetOwn w (mapB (imageT rows) l)) := by
  obtain ⟨sa, c, hsv, hcap, hcm⟩ := hb.shape
  subst hsv
  have hcl := chunks_length l
  obtain ⟨cs, HCS, HPL, HDE, HPE, HPA, HLA, HPN, HRG⟩ := chunk_facts l
  rw [HCS.out] at hcl
  have HAA := Lib.hid (show mapB (imageT rows) l = mapC (imageT rows) cs by rw [← HCS.out]; rfl)
  have hsz := mapC_size (imageT rows) cs
  obtain ⟨A, hAe⟩ : ∃ A, mapC (imageT rows) cs = A := ⟨_, rfl⟩
  rw [hAe] at hsz
  have HA := Lib.hid hAe
  have HB := Lib.hid hb
  have HTS := Lib.hid ht
  have HT := Lib.hid hT
  have HR := Lib.hid hR
  clear hb ht hT hAe hR
  go_enter Tryd.func21, Tryd.ntmps21
  go_wp2_with (refine wpList_mkBuf rfl 25 _ _ rfl 5 Tryd.underlying25 info_u8' _ _ _ l.length rfl rfl rfl (by omega) ?_)
  intro v0 w0 g0 x0
  go_wp2_with fail
  go_loopg [5, 6] cs.length (fun k o i wr => ∃ (j : Nat) (out : List UInt8), j + k = cs.length ∧ i = .int .i64 (placeOf cs j : Int) ∧ Buf w.heap.size 5 wr o out ∧ out ++ mapC (imageT rows) (cs.drop j) = A ∧ Ext w wr)
  case atStart => exact ⟨0, [], by omega, rfl, g0, HA.out, x0⟩
  case round =>
    obtain ⟨j, out, hj, rfl, hg, hout, hx⟩ := hrel
    have HJ := Lib.hid hj
    have HX := Lib.hid hx
    have HG := Lib.hid hg
    by_cases hlt : j < cs.length
    · have hgk : 0 < gk := by omega
      have hpj := HPL.out j hlt
      obtain ⟨hne, hdec⟩ := HDE.out j hlt
      have hpe := HPE.out j hlt
      have hle := HPN.out (j + 1)
      obtain ⟨_, _, hrr⟩ := HRG.out j hlt
      rw [List.drop_eq_getElem_cons hlt, mapC] at hout
      obtain ⟨p, hp⟩ : ∃ p, placeOf cs j = p := ⟨_, rfl⟩
      rw [hp] at hpj hne hdec hpe ⊢
      obtain ⟨ch, hch⟩ : ∃ ch, cs[j] = ch := ⟨_, rfl⟩
      rw [hch] at hdec hpe hout hrr
      have HPE2 := Lib.hid hpe
      have HOUT := Lib.hid hout
      have hsum : p + ch.bs.length ≤ l.length := by omega
      have hub := HR.out ch.r (by omega) (by omega)
      clear hj hp hx hg hout hpe hch
      go_wp2_with (refine wpList_subL rfl 25 _ _ rfl 5 Tryd.underlying25 info_u8' _ _ rfl (HB.out.ext HX.out) _ _ rfl p rfl (by omega) ?_)
      intro v2 b2 _
      go_wp2_with (go_at_call 26; refine (utf8_DecodeRune v2 _ _ b2 hne (HT.out.ext HX.out)).mono ?_)
      rintro _ w2 ⟨rfl, x2⟩
      rw [hdec]
      have X2 := HX.out.trans x2
      have G2 := HG.out.keep x2
      have cI := impl_image tv rows ch.r w2 (HTS.out.ext X2)
      clear x2 b2 hdec hne
      obtain ⟨y, hy⟩ : ∃ y, imageT rows ch.r = y := ⟨_, rfl⟩
      rw [hy] at cI hub HOUT
      clear hy
      by_cases hneg : y < 0
      · have HE := Lib.hid (show out ++ mapC (imageT rows) (cs.drop (j + 1)) = A by have := HOUT.out; rw [if_pos hneg] at this; exact this)
        have hneg' : ¬ 0 ≤ y := by omega
        clear HOUT
        go_wp2_with (go_at_call 22; refine cI.mono ?_; rintro _ w3 ⟨rfl, x3⟩)
        have HX3 := Lib.hid (X2.trans x3)
        have HG3 := Lib.hid (G2.keep x3)
        clear x3 X2 G2 cI
        go_roundg (gk - 1)
        case measure => omega
        case rel => exact ⟨j + 1, out, by have := HJ.out; omega, by rw [← HPE2.out]; go_num, HG3.out, HE.out, HX3.out⟩
      · have HE := Lib.hid (show out ++ (encN y.toNat ++ mapC (imageT rows) (cs.drop (j + 1))) = A by have := HOUT.out; rw [if_neg hneg] at this; exact this)
        have hneg' : 0 ≤ y := by omega
        have hlen : out.length + 4 ≤ 140737488355328 := by
          have := congrArg List.length HE.out
          rw [List.length_append] at this
          omega
        clear HOUT hneg
        go_wp2_with (go_at_call 22; refine cI.mono ?_)
        rintro _ w3 ⟨rfl, x3⟩
        have X3 := X2.trans x3
        have G3 := G2.keep x3
        have cA := utf8_AppendRune w.heap.size _ out y hneg' hub w3 G3 hlen X3.size
        clear x3 X2 G2 cI
        go_wp2_with (go_at_call 29; refine cA.mono ?_)
        rintro _ w4 ⟨v4, rfl, g4, B4⟩
        have HG4 := Lib.hid g4
        have HX4 := Lib.hid (show Ext w w4 from ⟨X3.below.trans B4⟩)
        clear g4 B4 cA X3 G3
        go_wp2_with fail
        go_roundg (gk - 1)
        case measure => omega
        case rel => exact ⟨j + 1, _, by have := HJ.out; omega, by rw [← HPE2.out]; go_num, HG4.out, by rw [List.append_assoc]; exact HE.out, HX4.out⟩
    · have hje : j = cs.length := by omega
      subst hje
      have hpl : placeOf cs cs.length = l.length := HPA.out
      rw [hpl]
      have HO := Lib.hid (show out = A by have := hout; rw [List.drop_length, mapC, List.append_nil] at this; exact this)
      have ho := hg.own
      clear hj hout hg
      go_wp2_with fail
      go_ret
      exact ⟨_, rfl, by rw [HAA.out, HA.out, ← HO.out]; exact ho, HX.out⟩

set_option maxRecDepth 100000 in
theorem impl_Map (tv sv : Value) (rows : List (Int × Int)) (l : List UInt8) (w : World) (ht : Ts w tv rows) (hb : Bs w sv l) (hT : Tabs w) (hl : l.length ≤ 17592186044416) (hR : ∀ r, 0 ≤ r → r ≤ 1114111 → imageT rows r ≤ 2147483647) :
    Calls Tryd.prog 12 #[sv, .agg #[tv]] w (RetOwn w (mapB (imageT rows) l)) := by
  have hsz := mapC_size (imageT rows) (chunks l)
  have hcl := chunks_length l
  have hA : (mapB (imageT rows) l).length ≤ 140737488355328 := by show (mapC _ _).length ≤ _; omega
  obtain ⟨a, c, rfl, _⟩ := ht.raw
  have x0 : Ext w (w.alloc (.cells #[.slice a rows.length c] 35)) := Ext.alloc _ _
  have cM := bytes_Map _ _ rows l _ (ht.ext x0) (hb.ext x0) (hT.ext x0) hl hR
  go_enter Tryd.func12, Tryd.ntmps12
  go_wp2_with (go_at_call 21; refine cM.mono ?_)
  rintro _ w1 ⟨v1, rfl, o1, x1⟩
  go_wp2_with (go_at_call 20; refine (impl_fresh _ _ _ o1.bs hA).mono ?_)
  rintro _ w2 ⟨v2, rfl, o2, x2⟩
  go_wp2_with fail
  go_ret
  exact ⟨_, rfl, o2.mono (x0.trans x1).size (Nat.le_refl _), (x0.trans x1).trans x2⟩

/-- A call's answer: a slice of numbers. -/
def RetIs (w : World) (rs : List Int) (e : Ending) (w' : World) : Prop := ∃ v, e = .returned v ∧ Is w' v rs ∧ Ext w w'

set_option maxRecDepth 100000 in
theorem spec_Points (s : ByteArray) (w : World) (hs : s.size ≤ 1099511627776) :
    Calls Tryd.prog 11 #[.string s] w (RetIs w (runesOf (chunks s.data.toList))) := by
  go_enter Tryd.func11, Tryd.ntmps11
  go_wp2_with (go_at_call 19; refine (spec_points s w hs).mono ?_)
  rintro _ w1 ⟨v1, rfl, i1, x1⟩
  go_wp2_with fail
  go_ret
  exact ⟨_, rfl, vs_of_owns i1, x1⟩
end Go.Proofs.YtiahholgpbjjfaaDoor
