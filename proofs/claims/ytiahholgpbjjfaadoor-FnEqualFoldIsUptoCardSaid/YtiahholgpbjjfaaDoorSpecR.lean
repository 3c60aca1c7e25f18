/- The walks of spec's functions over code points: turned, trimLeft, points, Size, and those that call them. -/
import Derived.Test.YtiahholgpbjjfaaDoorFirst
namespace Go.Proofs.YtiahholgpbjjfaaDoor
open Go.RowKit

theorem holdsT_not (rs : List Int) (nt : Bool) (r : Int) : holdsT rs (!nt) r = !holdsT rs nt r := by
  unfold holdsT
  split <;> simp

theorem firstC_range (p : Int → Bool) : ∀ (cs : List Ch) (o : Nat), firstC p o cs = -1 ∧ (∀ c ∈ cs, p c.r = false) ∨ ∃ i, ∃ h : i < cs.length, firstC p o cs = ((o + placeOf cs i : Nat) : Int) ∧ (∀ c ∈ cs.take i, p c.r = false) ∧ p cs[i].r = true
  | [], _ => .inl ⟨rfl, by simp⟩
  | c :: cs, o => by
    cases hp : p c.r
    · rcases firstC_range p cs (o + c.bs.length) with ⟨e, hn⟩ | ⟨i, hi, e, hn, hi2⟩
      · refine .inl ⟨by rw [firstC, hp, if_neg (by simp), e], ?_⟩
        intro d hd
        rcases List.mem_cons.1 hd with rfl | hd
        · exact hp
        · exact hn d hd
      · refine .inr ⟨i + 1, by simpa using hi, ?_, ?_, by simpa using hi2⟩
        · rw [firstC, hp, if_neg (by simp), e]
          congr 1
          simp [placeOf, List.take_succ_cons, glue_cons]
          omega
        · intro d hd
          rw [List.take_succ_cons] at hd
          rcases List.mem_cons.1 hd with rfl | hd
          · exact hp
          · exact hn d hd
    · exact .inr ⟨0, by simp, by rw [firstC, hp, if_pos rfl]; simp [placeOf, glue], by simp, by simpa using hp⟩

theorem trimL_none (p : Int → Bool) (cs : List Ch) (h : ∀ c ∈ cs, p c.r = true) : trimL p cs = [] := dropWhile_all h
theorem trimL_at (p : Int → Bool) (cs : List Ch) (j : Nat) (hj : j < cs.length) (h1 : ∀ c ∈ cs.take j, p c.r = true) (h2 : p cs[j].r = false) : trimL p cs = cs.drop j := by
  unfold trimL
  have e : cs = cs.take j ++ cs.drop j := (List.take_append_drop j cs).symm
  have e2 : (cs.take j ++ cs.drop j).dropWhile (fun c => p c.r) = cs.drop j := by
    rw [dropWhile_append_all h1, List.drop_eq_getElem_cons hj, List.dropWhile_cons, if_neg (by simp [h2])]
  rw [← e] at e2
  exact e2

theorem info_i32 : (Tryd.prog.info? 21).map (fun i => (i.zero, i.size, i.bytes)) = some (some (.int .i32 0), 1, 4) := by kernel_rfl
/-- The code points. -/
def runesOf (cs : List Ch) : List Int := cs.map fun c => (c.r : Int)
set_option maxRecDepth 100000 in
theorem spec_points (s : ByteArray) (w : World) (hs : s.size ≤ 1099511627776) :
    Calls Tryd.prog 19 #[.string s] w fun e w' => ∃ v, e = .returned v ∧ w'.ownsRow w.heap.size 21 1 v (runesOf (chunks s.data.toList)).length ((runesOf (chunks s.data.toList)).map (Value.int .i32)) ∧ Ext w w' := by
  go_enter Tryd.func19, Tryd.ntmps19
  go_wp2_with (go_at_call 28; refine (spec_pieces' s _ hs).mono ?_)
  rintro _ w1 ⟨v1, rfl, p1, x1⟩
  have o1 := owns_keep (owns_empty w.heap.size 21 1 w (Nat.le_refl _)) x1
  have X := (Ext.alloc _ _).trans x1
  clear x1
  have hcl := chunks_length s.data.toList
  have ES : s.data.toList.length = s.size := rfl
  rw [ES] at hcl
  clear ES
  obtain ⟨cs, hcs⟩ : ∃ cs, chunks s.data.toList = cs := ⟨_, rfl⟩
  rw [hcs] at p1 hcl
  have HCS := Lib.hid hcs
  clear hcs
  have ps : Ps w1 v1 cs := vs_of_owns p1
  obtain ⟨hm, a1, c1, rfl, hc1, hc2, _⟩ := ps.raw
  unfold maxLen at hm
  clear ps
  have HX := Lib.hid X
  obtain ⟨B, hB⟩ : ∃ B, (w.alloc (.cells #[] 21)).heap.size = B := ⟨_, rfl⟩
  rw [hB] at p1
  clear X hB
  go_wp2_with fail
  go_loopg [3, 5] cs.length (fun k v i wr => ∃ j : Nat, j + k = cs.length ∧ i = .int .i64 j ∧ wr.ownsRow w.heap.size 21 1 v (runesOf (cs.take j)).length ((runesOf (cs.take j)).map (Value.int .i32)) ∧ wr.ownsRow B 50 4 (.slice a1 cs.length c1) cs.length (pcells 0 cs) ∧ Below w.heap.size w wr)
  case atStart => exact ⟨0, by omega, rfl, o1, p1, HX.out.below⟩
  case round =>
    obtain ⟨j, hj, rfl, hown, hps, hbe⟩ := hrel
    clear o1 p1
    have HO := Lib.hid hown
    have HP := Lib.hid hps
    have HB := Lib.hid hbe
    have HJ := Lib.hid hj
    clear hown hbe
    by_cases hlt : j < cs.length
    · have hg : 0 < gk := by omega
      have hj1 : j + 1 ≤ cs.length := hlt
      have ps : Ps wr (.slice a1 cs.length c1) cs := vs_of_owns hps
      obtain ⟨_, a2, c2, hv, _, _, hcells⟩ := ps.raw
      injection hv with hv1 _ hv2
      subst hv1
      subst hv2
      obtain ⟨b, o, rfl, q0, q1, q2, q3⟩ := hcells j hlt
      have HLN := Lib.hid (show (runesOf (cs.take j)).length = j by unfold runesOf; rw [List.length_map, List.length_take]; omega)
      clear hcells q0 q1 q3 ps hj hps
      go_wp2_with (refine wpList_appendV rfl 29 _ _ rfl 21 1 4 _ Tryd.underlying29 info_i32 rfl (by omega) w.heap.size _ _ _ rfl (owns_keep HO.out (Ext.alloc _ _)) _ 1 _ [.int .i32 (cs[j].r : Int)] rfl rfl (news_alloc _ _ _) (by simp [Value.oneCell']) (by rw [HLN.out]; omega) (by rw [HLN.out]; omega) (Nat.le_trans HB.out.size (Ext.alloc _ _).size) ?_)
      intro v2 w2 o2 g2
      have B2 := owns_grown (owns_keep HO.out (Ext.alloc _ _)) g2 (Nat.le_trans HB.out.size (Ext.alloc _ _).size) (below_ext HB.out (Ext.alloc _ _) HB.out.size) (Nat.le_refl _)
      have P2 := owns_apart (owns_keep HO.out (Ext.alloc _ _)) (owns_keep HP.out (Ext.alloc _ _)) (by decide) g2
      clear g2
      go_wp2_with fail
      go_roundg (gk - 1)
      case measure => omega
      case rel =>
        refine ⟨j + 1, by have := HJ.out; omega, by go_num, ?_, P2, B2⟩
        have e : runesOf (cs.take (j + 1)) = runesOf (cs.take j) ++ [(cs[j].r : Int)] := by
          unfold runesOf
          rw [List.take_succ_eq_append_getElem hlt, List.map_append]; rfl
        rw [e, List.map_append, List.length_append]
        exact o2
    · have HF := Lib.hid (show cs.take j = cs from List.take_of_length_le (by omega))
      clear hps hj
      go_wp2_with fail
      go_ret
      refine ⟨_, rfl, ?_, ⟨HB.out⟩⟩
      have := HO.out
      rw [HF.out] at this
      rw [HCS.out]
      exact this
end Go.Proofs.YtiahholgpbjjfaaDoor
