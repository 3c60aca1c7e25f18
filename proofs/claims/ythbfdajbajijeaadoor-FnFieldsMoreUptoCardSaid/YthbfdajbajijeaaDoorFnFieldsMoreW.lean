/- The walk of the law FnFieldsMore: it returns true where the text has at most 2^20 bytes. -/
import Derived.Test.YthbfdajbajijeaaDoorZE
import Derived.Test.YthbfdajbajijeaaDoorZC
namespace Go.Proofs.YthbfdajbajijeaaDoor
open Go.RowKit

theorem runsA_more (p : Int → Bool) (s c : Ch) (hs : p s.r = true) (hc : p c.r = false) : ∀ (cs : List Ch) (cur : Option (List Ch)), runsA p cur (cs ++ [s, c]) = runsA p cur cs ++ [[c]]
  | [], none => by simp [runsA, hs, hc]
  | [], some r => by simp [runsA, hs, hc]
  | x :: cs, none => by
    rw [List.cons_append, runsA, runsA]
    split
    · exact runsA_more p s c hs hc cs none
    · exact runsA_more p s c hs hc cs _
  | x :: cs, some r => by
    rw [List.cons_append, runsA, runsA]
    split
    · rw [runsA_more p s c hs hc cs none, List.cons_append]
    · exact runsA_more p s c hs hc cs _
theorem fields_more (l : List UInt8) (b : UInt8) (h1 : 32 < b.toNat) (h2 : b.toNat < 127) : fieldsB wsP (l ++ [32, b]) = fieldsB wsP l ++ [[b]] := by
  have hlow : ∀ x ∈ [32, b], x.toNat < 128 := by
    intro x hx
    simp at hx
    rcases hx with rfl | rfl
    · decide
    · omega
  unfold fieldsB runsC
  rw [chunks_ascii_post l [32, b] hlow]
  have := runsA_more wsP (ach 32) (ach b) (by show wsP ((32 : UInt8).toNat : Int) = true; exact (wsP_iff _).2 (by simp)) (by show wsP (b.toNat : Int) = false; exact wsP_false (by omega)) (chunks l) none
  rw [List.map_cons, List.map_cons, List.map_nil, this, List.map_append]
  simp [glue, ach]

set_option maxRecDepth 100000 in
set_option maxHeartbeats 4000000 in
theorem FnFieldsMore_walk (w : World) (hT : Tabs w) (hWh : White w) (a0 : ByteArray) (z0 : a0.size ≤ 1048576) (b : UInt8) :
    Calls Tryd.prog 8 #[.string a0, .int .u8 (b.toNat : Int)] w fun e w' => e = .returned (.bool true) ∧ Below w.heap.size w w' := by
  have hmax : a0.size ≤ maxLen := by unfold maxLen; omega
  have hbl := b.toNat_lt
  by_cases h1 : b.toNat ≤ 32
  · have q1 : (b.toNat : Int) ≤ 32 := by omega
    go_enter Tryd.func8, Tryd.ntmps8
    go_wp2_with fail
    go_ret
    exact ⟨rfl, Below.refl _ _⟩
  by_cases h2 : 127 ≤ b.toNat
  · have q1 : ¬ (b.toNat : Int) ≤ 32 := by omega
    have q2 : (127 : Int) ≤ (b.toNat : Int) := by omega
    go_enter Tryd.func8, Tryd.ntmps8
    go_wp2_with fail
    go_ret
    exact ⟨rfl, Below.refl _ _⟩
  have q1 : ¬ (b.toNat : Int) ≤ 32 := by omega
  have q2 : ¬ (127 : Int) ≤ (b.toNat : Int) := by omega
  have es : a0.data.toList.length = a0.size := rfl
  have k1 := fieldsB_len wsP a0.data.toList
  have key := fields_more a0.data.toList b (by omega) (by omega)
  rw [es] at k1
  obtain ⟨L, hL⟩ : ∃ L, fieldsB wsP a0.data.toList = L := ⟨_, rfl⟩
  rw [hL] at k1 key
  have HL := Lib.hid hL
  have KEY := Lib.hid key
  have hT0 := Lib.hid hT
  have hW0 := Lib.hid hWh
  have hcat : (a0 ++ (⟨#[32]⟩ : ByteArray) ++ (⟨[b].toArray⟩ : ByteArray)).size ≤ maxLen := by rw [ByteArray.size_append, ByteArray.size_append]; show a0.size + 1 + 1 ≤ _; unfold maxLen; omega
  have HCT := Lib.hid hcat
  have HLA := Lib.hid (show (a0.data.toList ++ [32, b]).length ≤ 1099511627776 by rw [List.length_append, es]; simp; omega)
  have HLB := Lib.hid (show a0.data.toList.length ≤ 1099511627776 by omega)
  have HDD := Lib.hid (show (a0 ++ (⟨#[32]⟩ : ByteArray) ++ (⟨[b].toArray⟩ : ByteArray)).data.toList = a0.data.toList ++ [32, b] by simp)
  clear hL key es hT hWh h1 h2 hcat
  go_enter Tryd.func8, Tryd.ntmps8
  go_upto_region 4 with (refine wpList_toString rfl 27 9 _ rfl 5 Tryd.underlying27 Tryd.underlying5 Tryd.underlying9 _ _ rfl (Bs.one w _ b) ?_)
  have X : Ext w (w.alloc (.cells #[.int .u8 (b.toNat : Int)] 5)) := Ext.alloc _ _
  obtain ⟨w1, hw1⟩ : ∃ w1, w.alloc (.cells #[.int .u8 (b.toNat : Int)] 5) = w1 := ⟨_, rfl⟩
  rw [hw1] at X ⊢
  clear hw1
  go_wp2_with (refine wpList_toBytes rfl 9 27 _ rfl 5 Tryd.underlying9 Tryd.underlying27 Tryd.underlying5 _ rfl HCT.out ?_)
  intro v2 w2 o2 x2
  replace X := X.trans x2
  have p2 : Bs w2 v2 (a0.data.toList ++ [32, b]) := by
    have := o2.bs
    first | exact this | (rw [HDD.out] at this; exact this) | simpa using this
  have c2 := impl_Fields _ _ _ p2 (hW0.out.ext X) (hT0.out.ext X) HLA.out
  rw [KEY.out] at c2
  clear o2 x2 p2
  go_wp2_with (go_at_call 18; refine c2.mono ?_)
  rintro _ w3 ⟨v3, rfl, o3, x3⟩
  replace X := X.trans x3
  clear x3 c2
  go_wp2_with (go_at_call 17; refine (laws_texts v3 (L ++ [[b]]) _ o3.bs (by rw [List.length_append]; simp; omega)).mono ?_)
  rintro _ w4 ⟨v4, rfl, s4, x4⟩
  replace X := X.trans x4
  clear x4 o3
  go_wp2_with (refine wpList_toBytes rfl 9 27 _ rfl 5 Tryd.underlying9 Tryd.underlying27 Tryd.underlying5 _ rfl hmax ?_)
  intro v5 w5 o5 x5
  replace X := X.trans x5
  replace s4 := s4.ext x5
  have c5 := impl_Fields _ _ _ o5.bs (hW0.out.ext X) (hT0.out.ext X) HLB.out
  rw [HL.out] at c5
  clear o5 x5
  go_wp2_with (go_at_call 18; refine c5.mono ?_)
  rintro _ w6 ⟨v6, rfl, o6, x6⟩
  replace X := X.trans x6
  replace s4 := s4.ext x6
  clear x6 c5
  go_wp2_with (go_at_call 17; refine (laws_texts v6 L _ o6.bs (by omega)).mono ?_)
  rintro _ w7 ⟨v7, rfl, s7, x7⟩
  replace X := X.trans x7
  replace s4 := s4.ext x7
  clear x7 o6
  obtain ⟨n, hn⟩ : ∃ n, w7.heap.size = n := ⟨_, rfl⟩
  have hwn : w.heap.size ≤ n := by have := X.size; omega
  have HB4 := Lib.hid (show ∀ q, (∃ o c, v4 = .slice (some ⟨q, o, none⟩) (L ++ [[b]]).length c) → q < n by
    rintro q ⟨o, c, e⟩
    obtain ⟨a4, c4, e4, _, _, hc4⟩ := s4.raw
    obtain ⟨b4, o4, ha4, d4⟩ := hc4 0 (by simp)
    rw [ha4, e] at e4
    injection e4 with e4 _ _
    injection e4 with e4
    injection e4 with e4 _ _
    have := World.block_lt_of_cell? _ _ d4
    rw [← e4, hn] at this
    exact this)
  go_wp2_with (refine wpList_appendVs rfl 31 _ _ rfl 9 1 16 _ Tryd.underlying31 info_string rfl (by omega) n _ 0 [] rfl (World.ownsRow_nil _ _ _ _) _ L.length _ rfl s7 (svals_one L) (by omega) (by omega) (by rw [hn]; exact Nat.le_refl _) ?_)
  intro v8 w8 o8 g8
  have x8 : Ext w7 w8 := ext_of_grown g8 (by intro k hk; simp [Value.ownBlock] at hk)
  replace X := X.trans x8
  replace s4 := s4.ext x8
  have hn8 : n ≤ w8.heap.size := by have := x8.size; omega
  clear g8 x8 s7 hn
  have xA := Ext.alloc w8 (.cells #[.string ⟨[b].toArray⟩] 9)
  have O8 := owns_keep o8 xA
  have hn9 : n ≤ (w8.alloc (.cells #[.string ⟨[b].toArray⟩] 9)).heap.size := Nat.le_trans hn8 xA.size
  have S4 := s4.ext xA
  have XA := X.trans xA
  have HO8 := Lib.hid O8
  have HS4 := Lib.hid S4
  have HXA := Lib.hid XA
  clear o8 s4 X O8 S4 XA xA
  go_wp2_with (refine wpList_appendV rfl 31 _ _ rfl 9 1 16 _ Tryd.underlying31 info_string rfl (by omega) n _ _ _ rfl HO8.out _ 1 _ [.string ⟨[b].toArray⟩] rfl rfl (news_alloc _ _ _) (by simp [Value.oneCell']) (by omega) (by omega) hn9 ?_)
  intro v9 w9 o9 g9
  have s9 : Ss w9 v9 (L ++ [[b]]) := by
    have := vs_of_owns o9
    unfold Ss
    rw [svals_append, List.length_append]
    simpa [svals] using this
  have B9 : Below w.heap.size w w9 := owns_grown HO8.out g9 hn9 HXA.out.below hwn
  have s4 : Ss w9 v4 (L ++ [[b]]) := Vs.fr HS4.out (owns_frame HO8.out g9) (.inr fun q hq => .inl (HB4.out q hq))
  clear g9 o9
  go_wp2_with (go_at_call 16; refine (laws_same _ _ (L ++ [[b]]) (L ++ [[b]]) _ s4 s9 rfl).mono ?_)
  rintro _ w10 ⟨rfl, x10⟩
  go_wp2_with fail
  go_ret
  exact ⟨rfl, below_ext B9 x10 (Below.size B9)⟩
end Go.Proofs.YthbfdajbajijeaaDoor
