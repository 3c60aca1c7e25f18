/- The walks of spec.point and spec.pieces. -/
import Derived.Test.YtiahholgpbjjfaaDoorPieces
namespace Go.Proofs.YtiahholgpbjjfaaDoor
open Go.RowKit

set_option maxRecDepth 100000 in
theorem spec_point (s : ByteArray) (at_ k : Nat) (w : World) (hs : s.size ≤ 4611686018427387904) (ha : at_ + k ≤ s.size) (h1 : 1 ≤ k) (h4 : k ≤ 4)
    (hp : ∀ i, i + 1 < k → 0 ≤ ptv (s.data.toList.drop at_) k i ∧ ptv (s.data.toList.drop at_) k i ≤ 131071) :
    Calls Tryd.prog 36 #[.string s, .int .i64 at_, .int .i64 k] w fun e w' => e = .returned (.int .i32 (ptv (s.data.toList.drop at_) k (k - 1))) ∧ w = w' := by
  have HP := Lib.hid hp
  clear hp
  have hb0 : at_ < s.size := by omega
  obtain ⟨x, hx⟩ : ∃ x, s[at_]'hb0 = x := ⟨_, rfl⟩
  have hx0 : (s.data.toList.drop at_).getD 0 0 = x := by rw [str_drop_getD s at_ 0 hb0]; exact hx
  have HX := Lib.hid hx0
  clear hx0
  have hxl := x.toNat_lt
  have hk : k = 1 ∨ k = 2 ∨ k = 3 ∨ k = 4 := by omega
  have H0 : ptv (s.data.toList.drop at_) k 0 = (x.toNat : Int) - lead k := by show _ - _ = _; rw [HX.out]
  rcases hk with rfl | rfl | rfl | rfl
  · replace H0 : ptv (s.data.toList.drop at_) 1 0 = (x.toNat : Int) := H0.trans (by simp [lead])
    have HH := Lib.hid H0
    clear H0
    go_enter Tryd.func36, Tryd.ntmps36
    go_wp2_with fail
    go_loopg [7, 8] 0 (fun n r i wr => ∃ j : Nat, j + n = 0 ∧ r = .int .i32 (ptv (s.data.toList.drop at_) 1 j) ∧ i = .int .i64 ((at_ : Int) + 1 + (j : Int)) ∧ w = wr)
    case atStart => exact ⟨0, by omega, by rw [HH.out], by simp, rfl⟩
    case round =>
      obtain ⟨j, hj, rfl, rfl, rfl⟩ := hrel
      have HJ := Lib.hid hj
      by_cases hlt : j < 0
      · omega
      · have hjk : j = 0 := by omega
        subst hjk
        clear hj
        go_wp2_with fail
        go_ret
        exact ⟨rfl, rfl⟩
  · replace H0 : ptv (s.data.toList.drop at_) 2 0 = (x.toNat : Int) - 192 := H0.trans (by simp [lead])
    have HH := Lib.hid H0
    clear H0
    go_enter Tryd.func36, Tryd.ntmps36
    go_wp2_with fail
    go_loopg [7, 8] 1 (fun n r i wr => ∃ j : Nat, j + n = 1 ∧ r = .int .i32 (ptv (s.data.toList.drop at_) 2 j) ∧ i = .int .i64 ((at_ : Int) + 1 + (j : Int)) ∧ w = wr)
    case atStart => exact ⟨0, by omega, by rw [HH.out], by simp, rfl⟩
    case round =>
      obtain ⟨j, hj, rfl, rfl, rfl⟩ := hrel
      have HJ := Lib.hid hj
      by_cases hlt : j < 1
      · have hg : 0 < gk := by omega
        have hb : at_ + 1 + j < s.size := by omega
        obtain ⟨y, hy⟩ : ∃ y, s[at_ + 1 + j]'hb = y := ⟨_, rfl⟩
        have HY := Lib.hid (show (s.data.toList.drop at_).getD (j + 1) 0 = y by
          rw [str_drop_getD s at_ (j + 1) (by omega), ← hy]
          congr 1; omega)
        have hy' : ∀ h, s[((at_ : Int) + 1 + (j : Int)).toNat]'h = y := by
          intro h
          rw [← hy]
          congr 1
        have hr := HP.out j (by omega)
        have HS := Lib.hid (show ptv (s.data.toList.drop at_) 2 (j + 1) = 64 * ptv (s.data.toList.drop at_) 2 j + (y.toNat : Int) - 128 by show _ + _ - _ = _; rw [HY.out])
        obtain ⟨R, hR⟩ : ∃ R, ptv (s.data.toList.drop at_) 2 j = R := ⟨_, rfl⟩
        rw [hR] at hr HS ⊢
        have hyl := y.toNat_lt
        obtain ⟨r1, r2⟩ := hr
        clear hj hR
        go_wp2_with fail
        go_roundg (gk - 1)
        case measure => omega
        case rel => exact ⟨j + 1, by have := HJ.out; omega, by rw [HS.out], by go_num, rfl⟩
      · have hjk : j = 1 := by omega
        subst hjk
        clear hj
        go_wp2_with fail
        go_ret
        exact ⟨rfl, rfl⟩
  · replace H0 : ptv (s.data.toList.drop at_) 3 0 = (x.toNat : Int) - 224 := H0.trans (by simp [lead])
    have HH := Lib.hid H0
    clear H0
    go_enter Tryd.func36, Tryd.ntmps36
    go_wp2_with fail
    go_loopg [7, 8] 2 (fun n r i wr => ∃ j : Nat, j + n = 2 ∧ r = .int .i32 (ptv (s.data.toList.drop at_) 3 j) ∧ i = .int .i64 ((at_ : Int) + 1 + (j : Int)) ∧ w = wr)
    case atStart => exact ⟨0, by omega, by rw [HH.out], by simp, rfl⟩
    case round =>
      obtain ⟨j, hj, rfl, rfl, rfl⟩ := hrel
      have HJ := Lib.hid hj
      by_cases hlt : j < 2
      · have hg : 0 < gk := by omega
        have hb : at_ + 1 + j < s.size := by omega
        obtain ⟨y, hy⟩ : ∃ y, s[at_ + 1 + j]'hb = y := ⟨_, rfl⟩
        have HY := Lib.hid (show (s.data.toList.drop at_).getD (j + 1) 0 = y by
          rw [str_drop_getD s at_ (j + 1) (by omega), ← hy]
          congr 1; omega)
        have hy' : ∀ h, s[((at_ : Int) + 1 + (j : Int)).toNat]'h = y := by
          intro h
          rw [← hy]
          congr 1
        have hr := HP.out j (by omega)
        have HS := Lib.hid (show ptv (s.data.toList.drop at_) 3 (j + 1) = 64 * ptv (s.data.toList.drop at_) 3 j + (y.toNat : Int) - 128 by show _ + _ - _ = _; rw [HY.out])
        obtain ⟨R, hR⟩ : ∃ R, ptv (s.data.toList.drop at_) 3 j = R := ⟨_, rfl⟩
        rw [hR] at hr HS ⊢
        have hyl := y.toNat_lt
        obtain ⟨r1, r2⟩ := hr
        clear hj hR
        go_wp2_with fail
        go_roundg (gk - 1)
        case measure => omega
        case rel => exact ⟨j + 1, by have := HJ.out; omega, by rw [HS.out], by go_num, rfl⟩
      · have hjk : j = 2 := by omega
        subst hjk
        clear hj
        go_wp2_with fail
        go_ret
        exact ⟨rfl, rfl⟩
  · replace H0 : ptv (s.data.toList.drop at_) 4 0 = (x.toNat : Int) - 240 := H0.trans (by simp [lead])
    have HH := Lib.hid H0
    clear H0
    go_enter Tryd.func36, Tryd.ntmps36
    go_wp2_with fail
    go_loopg [7, 8] 3 (fun n r i wr => ∃ j : Nat, j + n = 3 ∧ r = .int .i32 (ptv (s.data.toList.drop at_) 4 j) ∧ i = .int .i64 ((at_ : Int) + 1 + (j : Int)) ∧ w = wr)
    case atStart => exact ⟨0, by omega, by rw [HH.out], by simp, rfl⟩
    case round =>
      obtain ⟨j, hj, rfl, rfl, rfl⟩ := hrel
      have HJ := Lib.hid hj
      by_cases hlt : j < 3
      · have hg : 0 < gk := by omega
        have hb : at_ + 1 + j < s.size := by omega
        obtain ⟨y, hy⟩ : ∃ y, s[at_ + 1 + j]'hb = y := ⟨_, rfl⟩
        have HY := Lib.hid (show (s.data.toList.drop at_).getD (j + 1) 0 = y by
          rw [str_drop_getD s at_ (j + 1) (by omega), ← hy]
          congr 1; omega)
        have hy' : ∀ h, s[((at_ : Int) + 1 + (j : Int)).toNat]'h = y := by
          intro h
          rw [← hy]
          congr 1
        have hr := HP.out j (by omega)
        have HS := Lib.hid (show ptv (s.data.toList.drop at_) 4 (j + 1) = 64 * ptv (s.data.toList.drop at_) 4 j + (y.toNat : Int) - 128 by show _ + _ - _ = _; rw [HY.out])
        obtain ⟨R, hR⟩ : ∃ R, ptv (s.data.toList.drop at_) 4 j = R := ⟨_, rfl⟩
        rw [hR] at hr HS ⊢
        have hyl := y.toNat_lt
        obtain ⟨r1, r2⟩ := hr
        clear hj hR
        go_wp2_with fail
        go_roundg (gk - 1)
        case measure => omega
        case rel => exact ⟨j + 1, by have := HJ.out; omega, by rw [HS.out], by go_num, rfl⟩
      · have hjk : j = 3 := by omega
        subst hjk
        clear hj
        go_wp2_with fail
        go_ret
        exact ⟨rfl, rfl⟩

/-- The cells of the pieces of a text, the first at place o. -/
def pcells : Nat → List Ch → List Value
  | _, [] => []
  | o, c :: cs => [.int .i64 o, .int .i64 c.bs.length, .int .i32 c.r, .bool c.ok] ++ pcells (o + c.bs.length) cs

theorem pcells_length : ∀ (cs : List Ch) (o : Nat), (pcells o cs).length = cs.length * 4
  | [], _ => rfl
  | c :: cs, o => by simp only [pcells, List.length_append, pcells_length cs, List.length_cons, List.length_nil]; omega

theorem pcells_snoc : ∀ (cs : List Ch) (o : Nat) (c : Ch), pcells o (cs ++ [c]) = pcells o cs ++ [.int .i64 ((o + (glue cs).length : Nat) : Int), .int .i64 c.bs.length, .int .i32 c.r, .bool c.ok]
  | [], o, c => by simp [pcells, glue]
  | d :: cs, o, c => by
    rw [List.cons_append, pcells, pcells_snoc cs, pcells, glue_cons, List.length_append, List.append_assoc]
    have e : o + d.bs.length + (glue cs).length = o + (d.bs.length + (glue cs).length) := by omega
    rw [e]

theorem pcells_one (cs : List Ch) (o : Nat) : ∀ u ∈ pcells o cs, u.oneCell' = true := by
  induction cs generalizing o with
  | nil => intro u hu; cases hu
  | cons c cs ih =>
    intro u hu
    rw [pcells] at hu
    rcases List.mem_append.1 hu with h | h
    · simp at h
      rcases h with rfl | rfl | rfl | rfl <;> rfl
    · exact ih _ u h

/-- A slice of pieces. -/
def Ps (w : World) (v : Value) (cs : List Ch) : Prop := Vs w v cs.length 4 (pcells 0 cs)
theorem Ps.ext {w w' : World} {v : Value} {cs : List Ch} (h : Ps w v cs) (x : Ext w w') : Ps w' v cs := Vs.ext h x

/-- Where the i-th code point stands. -/
def placeOf (cs : List Ch) (i : Nat) : Nat := (glue (cs.take i)).length

theorem pcells_get : ∀ (cs : List Ch) (o i : Nat) (h : i < cs.length), (pcells o cs)[i * 4]? = some (.int .i64 ((o + placeOf cs i : Nat) : Int)) ∧ (pcells o cs)[i * 4 + 1]? = some (.int .i64 (cs[i].bs.length : Int)) ∧
    (pcells o cs)[i * 4 + 2]? = some (.int .i32 (cs[i].r : Int)) ∧ (pcells o cs)[i * 4 + 3]? = some (.bool cs[i].ok)
  | [], _, _, h => by simp at h
  | c :: cs, o, 0, _ => by simp [pcells, placeOf, glue]
  | c :: cs, o, i + 1, h => by
    have ih := pcells_get cs (o + c.bs.length) i (by simpa using h)
    have e : ∀ f, (pcells o (c :: cs))[(i + 1) * 4 + f]? = (pcells (o + c.bs.length) cs)[i * 4 + f]? := by
      intro f
      rw [pcells, List.getElem?_append_right (by simp; omega)]
      congr 1
      simp
      omega
    have e0 := e 0
    rw [Nat.add_zero, Nat.add_zero] at e0
    rw [e0, e 1, e 2, e 3]
    have ep : o + placeOf (c :: cs) (i + 1) = o + c.bs.length + placeOf cs i := by simp [placeOf, List.take_succ_cons, glue_cons]; omega
    rw [ep]
    exact ih

theorem Ps.raw {w : World} {v : Value} {cs : List Ch} (h : Ps w v cs) : cs.length ≤ maxLen ∧ ∃ a c, v = .slice a cs.length c ∧ cs.length ≤ c ∧ c ≤ maxLen ∧ ∀ i (h : i < cs.length), ∃ b o, a = some ⟨b, o, none⟩ ∧
    w.cell? ⟨b, o + i * 4, none⟩ = some (.int .i64 (placeOf cs i : Int)) ∧ w.cell? ⟨b, o + i * 4 + 1, none⟩ = some (.int .i64 (cs[i].bs.length : Int)) ∧
    w.cell? ⟨b, o + i * 4 + 2, none⟩ = some (.int .i32 (cs[i].r : Int)) ∧ w.cell? ⟨b, o + i * 4 + 3, none⟩ = some (.bool cs[i].ok) := by
  refine ⟨Vs.len h, ?_⟩
  obtain ⟨hl, a, c, rfl, h1, h2, h3⟩ := h
  refine ⟨a, c, rfl, h1, h2, fun i hi => ?_⟩
  rcases h3 with h3 | ⟨b, o, rfl, hc⟩
  · rw [h3] at hl; simp at hl; omega
  · have hg := pcells_get cs 0 i hi
    have rd : ∀ f u, (pcells 0 cs)[i * 4 + f]? = some u → w.cell? ⟨b, o + i * 4 + f, none⟩ = some u := by
      intro f u hu
      obtain ⟨hlt, he⟩ := List.getElem?_eq_some_iff.1 hu
      have := hc (i * 4 + f) hlt
      rw [he] at this
      rw [Nat.add_assoc]
      exact this
    refine ⟨b, o, rfl, ?_, rd 1 _ hg.2.1, rd 2 _ hg.2.2.1, rd 3 _ hg.2.2.2⟩
    have := rd 0 _ hg.1
    simpa using this

theorem info_piece : (Tryd.prog.info? 50).map (fun i => (i.zero, i.size, i.bytes)) = some (some (.agg #[.int .i64 0, .int .i64 0, .int .i32 0, .bool false]), 4, 24) := by kernel_rfl

set_option maxRecDepth 100000 in
theorem spec_pieces' (s : ByteArray) (w : World) (hs : s.size ≤ 1099511627776) :
    Calls Tryd.prog 28 #[.string s] w fun e w' => ∃ v, e = .returned v ∧ w'.ownsRow w.heap.size 50 4 v (chunks s.data.toList).length (pcells 0 (chunks s.data.toList)) ∧ Ext w w' := by
  have hs2 : s.size ≤ 4611686018427387904 := by omega
  have ES := Lib.hid (show s.data.toList.length = s.size from rfl)
  go_enter Tryd.func28, Tryd.ntmps28
  go_wp2_with fail
  have o1 := owns_empty w.heap.size 50 4 w (Nat.le_refl _)
  have x1 : Ext w (w.alloc (.cells #[] 50)) := Ext.alloc _ _
  go_loopg [3, 4, 5] s.size (fun k v i n wr => ∃ (cs : List Ch) (j : Nat), i = .int .i64 j ∧ s.size ≤ j + k ∧ wr.ownsRow w.heap.size 50 4 v cs.length (pcells 0 cs) ∧ (glue cs).length = j ∧ chunks s.data.toList = cs ++ chunks (s.data.toList.drop j) ∧ Below w.heap.size w wr)
  case atStart => exact ⟨[], 0, rfl, by omega, o1, rfl, rfl, x1.below⟩
  case round =>
    obtain ⟨cs, j, rfl, hk, hown, hgl, hch, hbe⟩ := hrel
    clear o1 x1
    have HO := Lib.hid hown
    have HB := Lib.hid hbe
    have HG := Lib.hid hgl
    have HC := Lib.hid hch
    have HK := Lib.hid hk
    clear hown hbe hgl hch hk
    by_cases hlt : j < s.size
    · have hne : s.data.toList.drop j ≠ [] := by
        intro e
        have := congrArg List.length e
        simp at this
        omega
      have hq := seqL_dec hne
      have hsz := dec_size hne
      have hdl : (s.data.toList.drop j).length = s.size - j := by simp
      have cS := spec_sequence s j wr hs2 hlt
      have hle : cs.length + 1 ≤ 1099511627777 := by
        have h1 := chunks_length s.data.toList
        rw [HC.out, List.length_append] at h1
        have := ES.out
        omega
      cases hok : decOk (s.data.toList.drop j)
      · have hd := dec_bad hne hok
        simp only [hok, Bool.false_eq_true, if_false] at hq
        rw [hq] at cS
        have HCC := Lib.hid (show chunks s.data.toList = (cs ++ [⟨(s.data.toList.drop j).take 1, 65533, false⟩]) ++ chunks (s.data.toList.drop (j + 1)) by
          rw [HC.out, chunks_cons hne, hd, hok, List.drop_drop]; simp)
        have HL := Lib.hid (show ((s.data.toList.drop j).take 1).length = 1 by rw [List.length_take, hdl]; omega)
        clear hq hd hok hne hsz hdl
        go_wp2_with (first
          | (go_at_call 35; refine cS.mono ?_; rintro e w' ⟨rfl, rfl⟩)
          | refine wpList_appendV rfl 47 _ _ rfl 50 4 24 _ Tryd.underlying47 info_piece rfl (by omega) w.heap.size _ cs.length (pcells 0 cs) rfl (owns_keep HO.out (Ext.alloc _ _)) _ 1 _ [.int .i64 (j : Int), .int .i64 1, .int .i32 65533, .bool false] rfl rfl (news_alloc _ _ _) (by simp [Value.oneCell']) (by omega) (by omega) (Nat.le_trans HB.out.size (Ext.alloc _ _).size) ?_)
        intro v2 w2 o2 g2
        have B2 := owns_grown (owns_keep HO.out (Ext.alloc _ _)) g2 (Nat.le_trans HB.out.size (Ext.alloc _ _).size) (below_ext HB.out (Ext.alloc _ _) HB.out.size) (Nat.le_refl _)
        clear g2
        go_wp2_with fail
        go_roundg (gk - 1)
        case measure => have := HK.out; omega
        case rel =>
          refine ⟨cs ++ [⟨(s.data.toList.drop j).take 1, 65533, false⟩], j + 1, by go_num, by have := HK.out; omega, ?_, ?_, HCC.out, B2⟩
          · rw [pcells_snoc, List.length_append, HG.out, Nat.zero_add]
            simp only [HL.out]
            exact o2
          · rw [glue_append, List.length_append, HG.out, glue_cons, glue_nil, List.append_nil, HL.out]
      · obtain ⟨r, hr⟩ : ∃ r, (dec (s.data.toList.drop j)).1 = r := ⟨_, rfl⟩
        obtain ⟨n, hn⟩ : ∃ n, (dec (s.data.toList.drop j)).2 = n := ⟨_, rfl⟩
        have hpt := dec_point hne hok
        rw [hr, hn] at hpt
        rw [hn] at hsz
        simp only [hok, if_true, hn] at hq
        rw [hq] at cS
        have hjn : j + n ≤ s.size := by omega
        have cP := spec_point s j n wr hs2 hjn hsz.1 hsz.2.1 hpt.2
        rw [← hpt.1] at cP
        have HCC := Lib.hid (show chunks s.data.toList = (cs ++ [⟨(s.data.toList.drop j).take n, r, true⟩]) ++ chunks (s.data.toList.drop (j + n)) by
          rw [HC.out, chunks_cons hne, hr, hn, hok, List.drop_drop]; simp)
        have HL := Lib.hid (show ((s.data.toList.drop j).take n).length = n by rw [List.length_take, hdl]; omega)
        have hn0 : ((n : Int) == 0) = false := by rw [beq_eq_false_iff_ne]; omega
        have hn1 : 1 ≤ n := hsz.1
        have hn4 : n ≤ 4 := hsz.2.1
        clear hq hok hne hsz hdl hpt hr hn
        go_wp2_with (first
          | (go_at_call 35; refine cS.mono ?_; rintro e w' ⟨rfl, rfl⟩)
          | (go_at_call 36; refine cP.mono ?_; rintro e w' ⟨rfl, rfl⟩)
          | refine wpList_appendV rfl 47 _ _ rfl 50 4 24 _ Tryd.underlying47 info_piece rfl (by omega) w.heap.size _ cs.length (pcells 0 cs) rfl (owns_keep HO.out (Ext.alloc _ _)) _ 1 _ [.int .i64 (j : Int), .int .i64 (n : Int), .int .i32 (r : Int), .bool true] rfl rfl (news_alloc _ _ _) (by simp [Value.oneCell']) (by omega) (by omega) (Nat.le_trans HB.out.size (Ext.alloc _ _).size) ?_)
        intro v2 w2 o2 g2
        have B2 := owns_grown (owns_keep HO.out (Ext.alloc _ _)) g2 (Nat.le_trans HB.out.size (Ext.alloc _ _).size) (below_ext HB.out (Ext.alloc _ _) HB.out.size) (Nat.le_refl _)
        clear g2
        go_wp2_with fail
        go_roundg (gk - 1)
        case measure => have := HK.out; omega
        case rel =>
          refine ⟨cs ++ [⟨(s.data.toList.drop j).take n, r, true⟩], j + n, by go_num, by have := HK.out; omega, ?_, ?_, HCC.out, B2⟩
          · rw [pcells_snoc, List.length_append, HG.out, Nat.zero_add]
            simp only [HL.out]
            exact o2
          · rw [glue_append, List.length_append, HG.out, glue_cons, glue_nil, List.append_nil, HL.out]
    · have HF := Lib.hid (show chunks s.data.toList = cs by
        rw [HC.out, List.drop_of_length_le (by have := ES.out; omega), chunks_nil, List.append_nil])
      go_wp2_with fail
      go_ret
      exact ⟨_, rfl, by rw [HF.out]; exact HO.out, ⟨HB.out⟩⟩

theorem spec_pieces (s : ByteArray) (w : World) (hs : s.size ≤ 1099511627776) :
    Calls Tryd.prog 28 #[.string s] w fun e w' => ∃ v, e = .returned v ∧ Ps w' v (chunks s.data.toList) ∧ Ext w w' :=
  (spec_pieces' s w hs).mono fun _ _ ⟨v, he, ho, hx⟩ => ⟨v, he, vs_of_owns ho, hx⟩
end Go.Proofs.YtiahholgpbjjfaaDoor
