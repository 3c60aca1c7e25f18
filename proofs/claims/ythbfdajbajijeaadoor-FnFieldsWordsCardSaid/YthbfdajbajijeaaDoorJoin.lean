/- Lists of texts joined: laws.lists, bytes.Join by the shelf, impl.Join. -/
import Derived.Test.YthbfdajbajijeaaDoorZC
import Derived.Test.YthbfdajbajijeaaDoorLayJ
import Derived.Shelf.Bytes.SlJoin
import Derived.Test.YthbfdajbajijeaaDoorWrapA
namespace Go.Proofs.YthbfdajbajijeaaDoor
open Go.RowKit

set_option maxRecDepth 100000 in
set_option maxHeartbeats 1000000 in
theorem laws_lists (v : Value) (L : List (List UInt8)) (w : World) (h : Ss w v L) (hn : L.length ≤ 1099511627776) (hl : ∀ l ∈ L, l.length ≤ 140737488355328) :
    Calls Tryd.prog 25 #[v] w (RetOwnL w L) := by
  obtain ⟨a, c, rfl, p1, q1, e1⟩ := h.raw
  have hc1 : c ≤ 9223372036854775807 := by unfold maxLen at q1; omega
  have HC := Lib.hid e1
  have HL := Lib.hid hl
  clear e1 h q1 hl
  go_enter Tryd.func25, Tryd.ntmps25
  go_wp2_with fail
  have g0 := GrowL.start w.heap.size 27 w (Nat.le_refl _)
  have x0 : Ext w (w.alloc (.cells #[] 27)) := Ext.alloc _ _
  go_loopg [3, 9] L.length (fun k o i wr => ∃ j : Nat, j + k = L.length ∧ i = .int .i64 j ∧ GrowL w.heap.size 27 wr o (L.take j) ∧ Ext w wr)
  case atStart => exact ⟨0, by omega, rfl, g0, x0⟩
  case round =>
    obtain ⟨j, hj, rfl, hgr, hx⟩ := hrel
    clear g0 x0
    have HJ := Lib.hid hj
    by_cases hlt : j < L.length
    · have hg : 0 < gk := by omega
      obtain ⟨b, o, rfl, c0⟩ := HC.out j hlt
      replace c0 := hx.cell c0
      obtain ⟨M, hM⟩ : ∃ M, L.take j = M := ⟨_, rfl⟩
      have HTL := Lib.hid (show M.length = j by rw [← hM]; simp; omega)
      have HMM := Lib.hid hM
      rw [hM] at hgr
      clear hM
      obtain ⟨vs, hown⟩ := hgr.owns
      have hlj := HL.out _ (List.getElem_mem hlt)
      have hm : (⟨L[j].toArray⟩ : ByteArray).size ≤ maxLen := by show L[j].length ≤ _; unfold maxLen; omega
      have HG := Lib.hid hgr
      have HO := Lib.hid hown
      have HX := Lib.hid hx
      clear hj hgr hown hx
      go_wp2_with (refine wpList_toBytes rfl 9 27 _ rfl 5 Tryd.underlying9 Tryd.underlying27 Tryd.underlying5 _ rfl hm ?_)
      intro u1 w1 o1 x1
      have o1 : Own wr.heap.size w1.heap.size w1 u1 L[j] := o1
      have hu1 : ∀ y ∈ [u1], y.oneCell' = true := by
        obtain ⟨a1, c1, rfl, _⟩ := o1
        simp [Value.oneCell']
      obtain ⟨a1, c1, e1, _⟩ := id o1
      subst e1
      go_wp2_with (refine wpList_appendAt rfl 33 _ _ rfl 27 1 24 _ Tryd.underlying33 info_bytes rfl (by omega) w.heap.size _ _ vs rfl (owns_keep HO.out (x1.trans (Ext.alloc _ _))) _ 1 _ [_] rfl rfl (news_alloc _ _ _) hu1 (by rw [HTL.out]; omega) (by rw [HTL.out]; omega) (Nat.le_trans HX.out.size (x1.trans (Ext.alloc _ _)).size) ?_)
      intro v3 w3 h3 g3 hat
      have gn := HG.out.snoc x1 o1 HO.out h3 g3 hat
      have B3 := HG.out.below (below_ext (below_ext HX.out.below x1 HX.out.size) (Ext.alloc _ _) (Nat.le_trans HX.out.size x1.size)) g3 (Nat.le_refl _) (Nat.le_trans HX.out.size (x1.trans (Ext.alloc _ _)).size)
      have HGN := Lib.hid gn
      have HB3 := Lib.hid B3
      clear gn B3 h3 g3 hat o1 hu1
      go_wp2_with fail
      go_roundg (gk - 1)
      case measure => omega
      case rel =>
        refine ⟨j + 1, by have := HJ.out; omega, by go_num, ?_, ⟨HB3.out⟩⟩
        rw [List.take_succ_eq_append_getElem hlt, HMM.out]
        exact HGN.out
    · have hje : j = L.length := by omega
      have HT := Lib.hid (show L.take j = L from List.take_of_length_le (by omega))
      have HG := Lib.hid hgr
      clear hj hgr
      go_wp2_with fail
      go_ret
      have := HG.out
      rw [HT.out] at this
      exact ⟨_, rfl, this.ownL, hx⟩

theorem Bs.holds {w : World} {v : Value} {l : List UInt8} (h : Bs w v l) : Lib.HoldsBytes w v l := by
  obtain ⟨a, c, rfl, h1, h2, h3⟩ := h
  refine ⟨a, c, rfl, fun e => ?_, fun ad e i x hx => ?_⟩
  · rcases h3 with h3 | ⟨b, o, ha, _⟩
    · exact h3
    · rw [ha] at e; cases e
  · obtain ⟨hi, hx2⟩ := List.getElem?_eq_some_iff.1 hx
    rcases h3 with h3 | ⟨b, o, ha, hc⟩
    · rw [h3] at hi; cases hi
    · rw [ha] at e
      cases e
      rw [Addr.add_lit, hc i hi, hx2]

theorem fresh_bs {B : Nat} {w : World} {v : Value} {l : List UInt8} (h : Lib.FreshBytes B w v l) : Bs w v l := by
  obtain ⟨g, cap, zs, rfl, _, h1, h2, hz, hr, hb, hc, _⟩ := h
  refine ⟨_, cap, rfl, h1, h2, .inr ⟨g, 0, rfl, fun i hi => ?_⟩⟩
  rw [Nat.zero_add, hc i (by omega)]
  have hzi : i < zs.length := by omega
  have e1 : l[i] = ((zs[i]).toNat).toUInt8 := by
    have : l[i]? = some ((zs[i]).toNat).toUInt8 := by
      rw [← hb]
      simp [Lib.bytesOf, hi, hzi]
    rw [List.getElem?_eq_getElem hi] at this
    exact Option.some.inj this
  have hx := hr zs[i] (List.getElem_mem hzi)
  rw [e1]
  have e2 : zs.getD i 0 = zs[i] := by simp [List.getD, hzi]
  rw [e2]
  congr 2
  have : ((zs[i]).toNat.toUInt8).toNat = (zs[i]).toNat := by
    simp [Nat.toUInt8, UInt8.toNat_ofNat']
    omega
  rw [this]
  omega

/-- A call's answer: a text. -/
def RetTx (w : World) (l : List UInt8) (e : Ending) (w' : World) : Prop := ∃ v, e = .returned v ∧ Bs w' v l ∧ Ext w w'

theorem bytes_Join (v sv : Value) (L : List (List UInt8)) (sep : List UInt8) (w : World) (h : Ls w v L) (hs : Bs w sv sep) (hn : L.length ≤ 140737488355328) (hlen : Lib.lens L + sep.length * (L.length - 1) ≤ 140737488355328) :
    Calls Tryd.prog 49 #[v, sv] w (RetTx w (Lib.join L sep)) := by
  match L, h, hn, hlen with
  | [], h, _, _ =>
    obtain ⟨a, c, rfl, _⟩ := h.raw
    refine (Any.bytes_Join_none Tryd.lays14 a c sv w).mono ?_
    rintro e w' ⟨rfl, rfl⟩
    exact ⟨_, rfl, ⟨_, 0, rfl, Nat.le_refl _, Nat.zero_le _, .inl rfl⟩, Ext.alloc _ _⟩
  | [l0], h, _, hlen =>
    obtain ⟨a, c, rfl, _, _, hc⟩ := h.raw
    obtain ⟨b, o, u, rfl, hcell, hb⟩ := hc 0 (by simp)
    have hl0 : l0.length ≤ 140737488355328 := by simp [Lib.lens] at hlen; omega
    rw [Lib.join_one]
    obtain ⟨p0, c0, rfl, h1, h2, h3⟩ := hb
    rcases h3 with h3 | ⟨b2, o2, ha, hc2⟩
    · have e0 : l0 = [] := h3
      subst e0
      refine (Any.bytes_Join_one_empty Tryd.lays14 b o c p0 c0 sv w hcell).mono ?_
      rintro e w' ⟨rfl, rfl⟩
      exact ⟨_, rfl, Bs.nil _, Ext.refl _⟩
    · subst ha
      by_cases e0 : l0 = []
      · subst e0
        refine (Any.bytes_Join_one_empty Tryd.lays14 b o c _ c0 sv w hcell).mono ?_
        rintro e w' ⟨rfl, rfl⟩
        exact ⟨_, rfl, Bs.nil _, Ext.refl _⟩
      · refine (Any.bytes_Join_one Tryd.lays14 b o c ⟨b2, o2, none⟩ c0 l0 sv w hcell (fun i x hx => ?_) (List.length_pos_iff.2 e0) hl0).mono ?_
        · obtain ⟨hi, hx2⟩ := List.getElem?_eq_some_iff.1 hx
          rw [Addr.add_lit, ← hx2]
          exact hc2 i hi
        · rintro e w' ⟨v', rfl, hf, hbl⟩
          exact ⟨_, rfl, fresh_bs hf, ⟨hbl⟩⟩
  | l0 :: l1 :: L, h, hn, hlen =>
    obtain ⟨vs, ⟨hl, a, c, rfl, h1, h2, h3⟩, hb⟩ := h
    rcases h3 with h3 | ⟨b, o, rfl, hc⟩
    · rw [h3] at hl; simp at hl
    · have hvl : vs.length = (l0 :: l1 :: L).length := by omega
      refine (Any.bytes_Join_many Tryd.lays14 b o (l0 :: l1 :: L).length c vs (l0 :: l1 :: L) sv sep w rfl (by simp) ⟨hvl, fun i v hv => ?_, fun i v l hv hl => ?_⟩ h1 hs.holds hn hlen).mono ?_
      · obtain ⟨hi, hv2⟩ := List.getElem?_eq_some_iff.1 hv
        rw [Addr.add_lit, ← hv2]
        exact hc i hi
      · obtain ⟨hi, hv2⟩ := List.getElem?_eq_some_iff.1 hv
        obtain ⟨hi2, hl2⟩ := List.getElem?_eq_some_iff.1 hl
        rw [← hv2, ← hl2]
        exact (hb i hi2 hi).holds
      · rintro e w' ⟨v', rfl, hf, hbl⟩
        exact ⟨_, rfl, fresh_bs hf, ⟨hbl⟩⟩

theorem join_len (L : List (List UInt8)) (sep : List UInt8) : (Lib.join L sep).length ≤ Lib.lens L + sep.length * (L.length - 1) := by
  cases L with
  | nil => simp [Lib.join_nil]
  | cons x r =>
    rw [Lib.join_cons, List.length_append, Lib.joinTail_length]
    simp [Lib.lens]
    omega

set_option maxRecDepth 100000 in
theorem impl_Join (v sv : Value) (L : List (List UInt8)) (sep : List UInt8) (w : World) (h : Ls w v L) (hs : Bs w sv sep) (hn : L.length ≤ 140737488355328) (hlen : Lib.lens L + sep.length * (L.length - 1) ≤ 140737488355328) :
    Calls Tryd.prog 24 #[v, sv] w (RetOwn w (Lib.join L sep)) := by
  have hj := join_len L sep
  go_enter Tryd.func24, Tryd.ntmps24
  go_wp2_with (go_at_call 49; refine (bytes_Join _ _ _ _ _ h hs hn hlen).mono ?_)
  rintro _ w1 ⟨v1, rfl, o1, x1⟩
  go_wp2_with (go_at_call 38; refine (impl_fresh _ _ _ o1 (by omega)).mono ?_)
  rintro _ w2 ⟨v2, rfl, o2, x2⟩
  go_wp2_with fail
  go_ret
  exact ⟨_, rfl, o2.mono x1.size (Nat.le_refl _), x1.trans x2⟩
end Go.Proofs.YthbfdajbajijeaaDoor
