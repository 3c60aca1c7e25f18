/- The reference model's simple case folding: spec.folded, alike, Alike. Printed by foldiw.py. -/
import Derived.Test.YtiahholgpbjjfaaDoorFoldIV
namespace Go.Proofs.YtiahholgpbjjfaaDoor
open Go.RowKit

/-- The answer of folded. -/
def RetFolded (w : World) (cs : List Ch) (e : Ending) (w' : World) : Prop := ∃ v, e = .returned (.tuple #[v, .bool (foldedC cs).isSome]) ∧ (∀ A, foldedC cs = some A → Is w' v (A.map Int.ofNat)) ∧ Ext w w'

set_option maxRecDepth 100000 in
set_option maxHeartbeats 2000000 in
theorem spec_folded (s : ByteArray) (w : World) (hs : s.size ≤ 1099511627776) : Calls Tryd.prog 25 #[.string s] w (RetFolded w (chunks s.data.toList)) := by
  go_enter Tryd.func25, Tryd.ntmps25
  go_wp2_with (go_at_call 28; refine (spec_pieces' s _ hs).mono ?_)
  rintro _ w1 ⟨v1, rfl, p1, x1⟩
  have o1 := owns_keep (owns_empty w.heap.size 21 1 w (Nat.le_refl _)) x1
  have X := (Ext.alloc _ _).trans x1
  clear x1
  have hcl := chunks_length s.data.toList
  have hru := chunks_rune s.data.toList
  have ES : s.data.toList.length = s.size := rfl
  rw [ES] at hcl
  clear ES
  obtain ⟨cs, hcs⟩ : ∃ cs, chunks s.data.toList = cs := ⟨_, rfl⟩
  rw [hcs] at p1 hcl hru
  have HCS := Lib.hid hcs
  have HRU := Lib.hid hru
  clear hcs hru
  have ps : Ps w1 v1 cs := vs_of_owns p1
  obtain ⟨hm, a1, c1, rfl, hc1, hc2, _⟩ := ps.raw
  unfold maxLen at hm
  clear ps
  have HX := Lib.hid X
  obtain ⟨B, hB⟩ : ∃ B, (w.alloc (.cells #[] 21)).heap.size = B := ⟨_, rfl⟩
  rw [hB] at p1
  clear X hB
  go_wp2_with fail
  go_loopg [4, 6] cs.length (fun k v i wr => ∃ (j : Nat) (A : List Nat), j + k = cs.length ∧ i = .int .i64 j ∧ foldedC (cs.take j) = some A ∧ wr.ownsRow w.heap.size 21 1 v A.length (A.map fun (f : Nat) => Value.int .i32 (f : Int)) ∧ wr.ownsRow B 50 4 (.slice a1 cs.length c1) cs.length (pcells 0 cs) ∧ Below w.heap.size w wr)
  case atStart => exact ⟨0, [], by omega, rfl, rfl, o1, p1, HX.out.below⟩
  case round =>
    obtain ⟨j, A, hj, rfl, hA, hown, hps, hbe⟩ := hrel
    clear o1 p1
    have HO := Lib.hid hown
    have HP := Lib.hid hps
    have HB := Lib.hid hbe
    have HJ := Lib.hid hj
    have HA := Lib.hid hA
    have hwn : w.heap.size ≤ wr.heap.size := hbe.size
    clear hown hbe hA
    by_cases hlt : j < cs.length
    · have hg : 0 < gk := by omega
      have hj1 : j + 1 ≤ cs.length := hlt
      have ps : Ps wr (.slice a1 cs.length c1) cs := vs_of_owns hps
      obtain ⟨_, a2, c2, hv, _, _, hcells⟩ := ps.raw
      injection hv with hv1 _ hv2
      subst hv1
      subst hv2
      obtain ⟨b, o, rfl, q0, q1, q2, q3⟩ := hcells j hlt
      have hrj := HRU.out _ (List.getElem_mem hlt)
      have HLN := Lib.hid (show A.length = j by rw [foldedC_length HA.out, List.length_take]; omega)
      have HNX := Lib.hid (show ∀ f, specF cs[j].r = some f → foldedC (cs.take (j + 1)) = some (A ++ [f]) from fun f hf => by rw [List.take_succ_eq_append_getElem hlt]; exact foldedC_snoc HA.out hf)
      have HNO := Lib.hid (show specF cs[j].r = none → foldedC cs = none from fun hn => by
        have e : cs = cs.take j ++ cs[j] :: cs.drop (j + 1) := by rw [← List.drop_eq_getElem_cons hlt, List.take_append_drop]
        rw [e]
        exact foldedC_none hn)
      obtain ⟨r, hr⟩ : ∃ r, cs[j].r = r := ⟨_, rfl⟩
      rw [hr] at q2 hrj HNX HNO
      have cF := spec_Fold r hrj wr
      clear hcells q0 q1 q3 ps hj hps hr
      cases hf : specF r with
      | none =>
        have HN := Lib.hid (HNO.out hf)
        rw [hf] at cF
        have cF' : Calls Tryd.prog 31 #[.int .i32 (r : Int)] wr (RetV (.tuple #[.int .i32 0, .bool false]) wr) := cF
        clear hf cF HNX HNO
        go_wp2_with (go_at_call 31; refine cF'.mono ?_)
        rintro _ w2 ⟨rfl, x2⟩
        go_wp2_with fail
        go_ret2
        exact ⟨_, by rw [HCS.out, HN.out]; rfl, fun A' h => (by rw [HCS.out, HN.out] at h; cases h), ⟨below_ext HB.out x2 hwn⟩⟩
      | some f =>
        have HN := Lib.hid (HNX.out f hf)
        rw [hf] at cF
        have cF' : Calls Tryd.prog 31 #[.int .i32 (r : Int)] wr (RetV (.tuple #[.int .i32 (f : Int), .bool true]) wr) := cF
        clear hf cF HNX HNO
        go_wp2_with (go_at_call 31; refine cF'.mono ?_)
        rintro _ w2 ⟨rfl, x2⟩
        have O2 := owns_keep HO.out (x2.trans (Ext.alloc w2 (.cells #[.int .i32 (f : Int)] 21)))
        have P2 := owns_keep HP.out (x2.trans (Ext.alloc w2 (.cells #[.int .i32 (f : Int)] 21)))
        have B2 := below_ext HB.out (x2.trans (Ext.alloc w2 (.cells #[.int .i32 (f : Int)] 21))) hwn
        have hn2 : w.heap.size ≤ (w2.alloc (.cells #[.int .i32 (f : Int)] 21)).heap.size := B2.size
        have HP2 := Lib.hid P2
        clear x2 P2
        go_wp2_with (refine wpList_appendV rfl 29 _ _ rfl 21 1 4 _ Tryd.underlying29 info_i32 rfl (by omega) w.heap.size _ _ _ rfl O2 _ 1 _ [.int .i32 (f : Int)] rfl rfl (news_alloc _ _ _) (by simp [Value.oneCell']) (by rw [HLN.out]; omega) (by rw [HLN.out]; omega) hn2 ?_)
        intro v3 w3 o3 g3
        have B3 := owns_grown O2 g3 hn2 B2 (Nat.le_refl _)
        have P3 := owns_apart O2 HP2.out (by decide) g3
        clear g3 O2 B2 HP2
        have HO3 := Lib.hid o3
        clear o3
        go_wp2_with fail
        go_roundg (gk - 1)
        case measure => omega
        case rel =>
          refine ⟨j + 1, A ++ [f], by have := HJ.out; omega, by go_num, HN.out, ?_, P3, B3⟩
          rw [List.map_append, List.length_append]
          exact HO3.out
    · have HF := Lib.hid (show cs.take j = cs from List.take_of_length_le (by omega))
      clear hps hj
      go_wp2_with fail
      go_ret2
      have hA := HA.out
      rw [HF.out] at hA
      refine ⟨_, by rw [HCS.out, hA]; rfl, fun A' h => ?_, ⟨HB.out⟩⟩
      rw [HCS.out, hA] at h
      cases h
      have := vs_of_owns HO.out
      unfold Is
      rw [List.length_map, List.map_map]
      exact this

/-- What alike says. -/
def alikeV (cs ds : List Ch) : Bool × Bool := match foldedC cs, foldedC ds with
  | some A, some B => (decide (A = B), true)
  | _, _ => (false, false)
theorem alike_eq (cs ds : List Ch) : (alikeV cs ds).2 = false ∨ (alikeV cs ds).2 = true ∧ eqC cs ds = (alikeV cs ds).1 := by
  unfold alikeV
  cases h : foldedC cs with
  | none => exact .inl rfl
  | some A =>
    cases h' : foldedC ds with
    | none => exact .inl rfl
    | some B => exact .inr ⟨rfl, folded_eq h h'⟩
/-- The answer of alike. -/
def RetAlike (w : World) (cs ds : List Ch) (e : Ending) (w' : World) : Prop := e = .returned (.tuple #[.bool (alikeV cs ds).1, .bool (alikeV cs ds).2]) ∧ Ext w w'

set_option maxRecDepth 100000 in
set_option maxHeartbeats 4000000 in
theorem spec_alike (s t : ByteArray) (w : World) (hs : s.size ≤ 1099511627776) (ht : t.size ≤ 1099511627776) : Calls Tryd.prog 16 #[.string s, .string t] w (RetAlike w (chunks s.data.toList) (chunks t.data.toList)) := by
  have c1 := fun W => spec_folded s W hs
  have c2 := fun W => spec_folded t W ht
  obtain ⟨cs, hcs⟩ : ∃ cs, chunks s.data.toList = cs := ⟨_, rfl⟩
  obtain ⟨ds, hds⟩ : ∃ ds, chunks t.data.toList = ds := ⟨_, rfl⟩
  simp only [hcs] at c1
  simp only [hds] at c2
  rw [hcs, hds]
  clear hcs hds hs ht
  go_enter Tryd.func16, Tryd.ntmps16
  go_wp2_with (go_at_call 25; refine (c1 _).mono ?_)
  rintro _ w1 ⟨v1, rfl, i1, x1⟩
  have HI1 := Lib.hid i1
  clear i1
  go_wp2_with (go_at_call 25; refine (c2 _).mono ?_)
  rintro _ w2 ⟨v2, rfl, i2, x2⟩
  have HI2 := Lib.hid i2
  have X := x1.trans x2
  have HX2 := Lib.hid x2
  clear i2 c1 c2 x1 x2
  cases h1 : foldedC cs with
  | none =>
    have HA := Lib.hid (show alikeV cs ds = (false, false) by unfold alikeV; rw [h1])
    simp only [Option.isSome_none]
    clear h1
    go_wp2_with fail
    go_ret2
    exact ⟨by rw [HA.out]; rfl, X⟩
  | some A =>
    cases h2 : foldedC ds with
    | none =>
      have HA := Lib.hid (show alikeV cs ds = (false, false) by unfold alikeV; rw [h1, h2])
      simp only [Option.isSome_none, Option.isSome_some]
      clear h1 h2
      go_wp2_with fail
      go_ret2
      exact ⟨by rw [HA.out]; rfl, X⟩
    | some B =>
      have HA := Lib.hid (show alikeV cs ds = (decide (A = B), true) by unfold alikeV; rw [h1, h2])
      have iA := (HI1.out A h1).ext HX2.out
      have iB := HI2.out B h2
      simp only [Option.isSome_some]
      obtain ⟨a1, c1, rfl, p1, q1, e1⟩ := iA.raw
      obtain ⟨a2, c2, rfl, p2, q2, e2⟩ := iB.raw
      have HC1 := Lib.hid e1
      have HC2 := Lib.hid e2
      have hc1 : c1 ≤ 9223372036854775807 := by unfold maxLen at q1; omega
      have hc2 : c2 ≤ 9223372036854775807 := by unfold maxLen at q2; omega
      rw [List.length_map] at p1 p2 ⊢
      rw [List.length_map]
      have HX := Lib.hid X
      clear h1 h2 HI1 HI2 iA iB e1 e2 q1 q2 HX2 X
      by_cases hlen : A.length = B.length
      case neg =>
        have hne : ((A.length : Int) != (B.length : Int)) = true := by rw [bne_iff_ne]; omega
        have HD := Lib.hid (show decide (A = B) = false by rw [decide_eq_false_iff_not]; exact fun e => hlen (e ▸ rfl))
        clear hlen
        go_wp2_with fail
        go_ret2
        exact ⟨by rw [HA.out, HD.out]; rfl, HX.out⟩
      have hne : ((A.length : Int) != (B.length : Int)) = false := by rw [bne_eq_false_iff_eq]; omega
      have HL := Lib.hid hlen
      clear hlen
      go_wp2_with fail
      go_loopg [10] A.length (fun k i wr => ∃ j : Nat, j + k = A.length ∧ i = .int .i64 j ∧ A.take j = B.take j ∧ Ext w2 wr)
      case atStart => exact ⟨0, by omega, rfl, rfl, Ext.refl _⟩
      case round =>
        obtain ⟨j, hj, rfl, htk, hx⟩ := hrel
        have HJ := Lib.hid hj
        have HT := Lib.hid htk
        clear htk
        by_cases hlt : j < A.length
        · have hlt2 : j < B.length := by rw [← HL.out]; exact hlt
          have hg : 0 < gk := by omega
          obtain ⟨b1, o1, rfl, d1⟩ := HC1.out j (by rw [List.length_map]; exact hlt)
          obtain ⟨b2, o2, rfl, d2⟩ := HC2.out j (by rw [List.length_map]; exact hlt2)
          rw [List.getElem_map] at d1 d2
          have g1 := hx.cell d1
          have g2 := hx.cell d2
          have i1 : (j : Int) < (A.length : Int) := by omega
          have i2 : (j : Int) < (B.length : Int) := by omega
          obtain ⟨x, hxx⟩ : ∃ x, A[j] = x := ⟨_, rfl⟩
          obtain ⟨y, hyy⟩ : ∃ y, B[j] = y := ⟨_, rfl⟩
          rw [hxx] at g1
          rw [hyy] at g2
          have HXX := Lib.hid hxx
          have HYY := Lib.hid hyy
          clear hj d1 d2 hxx hyy
          by_cases heq : x = y
          · have hb : ((x : Int) != (y : Int)) = false := by rw [bne_eq_false_iff_eq]; omega
            have HE := Lib.hid (show A.take (j + 1) = B.take (j + 1) by rw [List.take_succ_eq_append_getElem hlt, List.take_succ_eq_append_getElem hlt2, HT.out, HXX.out, HYY.out, heq])
            clear heq
            go_wp2_with fail
            go_quiet (fail)
            go_wp2_with fail
            go_roundg (gk - 1)
            case measure => omega
            case rel => exact ⟨j + 1, by have := HJ.out; omega, by go_num, HE.out, hx.trans (Ext.drewN _ _)⟩
          · have hb : ((x : Int) != (y : Int)) = true := by rw [bne_iff_ne]; omega
            have HD := Lib.hid (show decide (A = B) = false by
              rw [decide_eq_false_iff_not]
              intro e
              apply heq
              rw [← HXX.out, ← HYY.out]
              simp [e])
            clear heq
            go_wp2_with fail
            go_quiet (fail)
            go_wp2_with fail
            go_ret2
            exact ⟨by rw [HA.out, HD.out]; rfl, HX.out.trans (hx.trans (Ext.drewN _ _))⟩
        · have HD := Lib.hid (show decide (A = B) = true by
            have e1 := HT.out
            rw [List.take_of_length_le (by omega), List.take_of_length_le (by have := HL.out; omega)] at e1
            simpa using e1)
          clear hj
          go_wp2_with fail
          go_ret2
          exact ⟨by rw [HA.out, HD.out]; rfl, HX.out.trans hx⟩

theorem spec_Alike (s t : ByteArray) (w : World) (hs : s.size ≤ 1099511627776) (ht : t.size ≤ 1099511627776) : Calls Tryd.prog 8 #[.string s, .string t] w (RetAlike w (chunks s.data.toList) (chunks t.data.toList)) := by
  go_enter Tryd.func8, Tryd.ntmps8
  go_wp2_with (go_at_call 16; refine (spec_alike s t w hs ht).mono ?_)
  rintro _ w1 ⟨rfl, x1⟩
  go_wp2_with fail
  go_ret2
  exact ⟨rfl, x1⟩
end Go.Proofs.YtiahholgpbjjfaaDoor
