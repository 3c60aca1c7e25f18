/- bytes.Trim, TrimLeft, TrimRight for every cutset; impl's and spec's of these names. Printed by cutw.py. -/
import Derived.Test.YtdlobdbclgcogaaDoorCutA
import Derived.Test.YtdlobdbclgcogaaDoorCutU
import Derived.Test.YtdlobdbclgcogaaDoorLayT
import Derived.Test.YtdlobdbclgcogaaDoorAppV
namespace Go.Proofs.YtdlobdbclgcogaaDoor
open Go.Shelf Go.RowKit

theorem first_high : ∀ cs : List UInt8, (∀ b ∈ cs, b.toNat < 128) ∨ ∃ K y, cs[K]? = some y ∧ 128 ≤ y.toNat ∧ ∀ (j : Nat) b, j < K → cs[j]? = some b → b.toNat < 128
  | [] => .inl (by simp)
  | x :: cs => by
    by_cases hx : x.toNat < 128
    · rcases first_high cs with h | ⟨K, y, h1, h2, h3⟩
      · refine .inl fun b hb => ?_
        rcases List.mem_cons.1 hb with rfl | hb
        · exact hx
        · exact h b hb
      · refine .inr ⟨K + 1, y, by simpa using h1, h2, fun j b hj e => ?_⟩
        cases j with
        | zero => simp at e; rw [← e]; exact hx
        | succ j => exact h3 j b (by omega) (by simpa using e)
    · exact .inr ⟨0, x, rfl, by omega, fun j b hj => by omega⟩

theorem bytesAt {w : World} {a : Option Addr} {c : Nat} {l : List UInt8} (h : Bs w (.slice a l.length c) l) : Lib.BytesAt w a l.length l := by
  intro hn
  obtain ⟨a', c', hv, _, _, h3⟩ := h
  injection hv with hv _ _
  subst hv
  rcases h3 with rfl | ⟨b, o, rfl, hc⟩
  · simp at hn
  · exact ⟨b, o, rfl, fun i hi => by rw [hc i hi]; simp [List.getD, hi]⟩

theorem Bs.take' {w : World} {a : Option Addr} {c : Nat} {l : List UInt8} (h : Bs w (.slice a l.length c) l) (k : Nat) (hk : k ≤ l.length) : Bs w (.slice a k c) (l.take k) := by
  obtain ⟨a', c', hv, h1, h2, h3⟩ := h
  injection hv with hv _ hc
  subst hv hc
  have hl : (l.take k).length = k := by rw [List.length_take]; omega
  refine ⟨a, c, by rw [hl], by omega, h2, ?_⟩
  rcases h3 with rfl | ⟨b, o, rfl, hc⟩
  · exact .inl (by simp)
  · exact .inr ⟨b, o, rfl, fun i hi => by rw [hc i (by omega)]; simp⟩

theorem Bs.left' {w : World} {a : Option Addr} {c : Nat} {l : List UInt8} (h : Bs w (.slice a l.length c) l) (k : Nat) (hk : k ≤ l.length) : Bs w (Lib.leftV a l.length c k) (l.drop k) := by
  unfold Lib.leftV
  split
  · rename_i e
    rw [e, List.drop_length]
    exact Bs.nil _
  · rename_i e
    obtain ⟨a', c', hv, h1, h2, h3⟩ := h
    injection hv with hv _ hc
    subst hv hc
    unfold Lib.fromV
    rw [if_neg (by omega)]
    refine ⟨_, c - k, by rw [List.length_drop], by rw [List.length_drop]; omega, by omega, ?_⟩
    rcases h3 with rfl | ⟨b, o, rfl, hc⟩
    · exact .inl (by simp)
    · refine .inr ⟨b, o + k, by simp [Addr.add], fun i hi => ?_⟩
      rw [List.length_drop] at hi
      have := hc (k + i) (by omega)
      rw [Nat.add_assoc, this]
      simp

theorem trimLeftS_len (l cs : List UInt8) : (Lib.trimLeftS l cs).length ≤ l.length := (List.dropWhile_suffix _).length_le
theorem trimLeftS_eq (l cs : List UInt8) : Lib.trimLeftS l cs = l.drop (l.length - (Lib.trimLeftS l cs).length) := List.suffix_iff_eq_drop.1 (List.dropWhile_suffix _)
theorem left_bs {w : World} {a : Option Addr} {c : Nat} {l : List UInt8} {cs : List UInt8} (h : Bs w (.slice a l.length c) l) : Bs w (Lib.leftV a l.length c (l.length - (Lib.trimLeftS l cs).length)) (Lib.trimLeftS l cs) := by
  have := h.left' (l.length - (Lib.trimLeftS l cs).length) (by omega)
  rwa [← trimLeftS_eq] at this
theorem right_bs {w : World} {a : Option Addr} {c : Nat} {l : List UInt8} {cs : List UInt8} (h : Bs w (.slice a l.length c) l) : Bs w (.slice a (Lib.trimRightS l cs).length c) (Lib.trimRightS l cs) := by
  have := h.take' (Lib.trimRightS l cs).length (Lib.trimRightS_len_le l cs)
  rwa [← Lib.trimRightS_eq_take] at this
theorem both_bs {w : World} {a : Option Addr} {c : Nat} {l : List UInt8} {cs : List UInt8} (h : Bs w (.slice a l.length c) l) : Bs w (Lib.leftV a (Lib.trimRightS l cs).length c ((Lib.trimRightS l cs).length - (Lib.trimS l cs).length)) (Lib.trimS l cs) :=
  left_bs (right_bs h)
theorem t_words {cs : List UInt8} (h : ∀ b ∈ cs, b.toNat < 128) (l : List UInt8) : tB (inP cs) l = Lib.trimS l cs := by
  rw [← tB_trB, tr_words h, tl_words h]; rfl
theorem tB_never {p : Int → Bool} (hp : ∀ r, p r = false) (l : List UInt8) : tB p l = l := by unfold tB; rw [tlB_never hp, trB_never hp]

theorem info_set_TrimLeft : (Tryd.prog.info? (Tryd.lays8_ren.t 27)).map (fun i => (i.zero, i.size)) = some (some (.agg (Array.replicate 256 (.bool false))), 256) := by kernel_rfl
theorem bytes_TrimLeft (sv : Value) (l : List UInt8) (s : ByteArray) (w : World) (hb : Bs w sv l) (hT : Tabs w) (hs : s.size ≤ 4611686018427387904) :
    Calls Tryd.prog 51 #[sv, .string s] w (RetB w (tlB (inP s.data.toList) l)) := by
  obtain ⟨a, c, hsv, hcap, hcm⟩ := hb.shape
  subst hsv
  have hcm' : c ≤ 9223372036854775807 := by unfold maxLen at hcm; omega
  by_cases hl : l = []
  · subst hl
    exact (Any.bytes_TrimLeft_none Tryd.lays8 a c s w).mono fun e w' ⟨h1, h2⟩ => by subst h2; exact ⟨_, h1, Bs.nil _, Ext.refl _⟩
  have hn0 : 0 < l.length := List.length_pos_iff.2 hl
  by_cases hc0 : s.size = 0
  · have hl0 : s.data.toList = [] := List.eq_nil_of_length_eq_zero (by rw [← Lib.size_eq]; exact hc0)
    refine (Any.bytes_TrimLeft_nocut Tryd.lays8 a l.length c s w hn0 hc0).mono fun e w' ⟨h1, h2⟩ => ?_
    subst h2
    refine ⟨_, h1, ?_, Ext.refl _⟩
    rw [hl0, tlB_never inP_nil]
    exact hb
  rcases first_high s.data.toList with hasc | ⟨K, y, hy, h128, hasc⟩
  · have hasc' : ∀ (j : Nat) b, s.data.toList[j]? = some b → b.toNat < 128 := fun j b hj => hasc b (List.mem_of_getElem? hj)
    rw [tl_words hasc]
    by_cases hc1 : s.size = 1
    · obtain ⟨cc, hc⟩ : ∃ cc, s.data.toList = [cc] := by
        have hlen : s.data.toList.length = 1 := by rw [← Lib.size_eq]; exact hc1
        match hh : s.data.toList, hlen with
        | [cc], _ => exact ⟨cc, rfl⟩
      have hcut : s = ⟨#[cc]⟩ := by rw [← Lib.mk_data s, hc]
      have h128 : cc.toNat < 128 := hasc cc (by rw [hc]; simp)
      rw [hc, hcut]
      exact (Any.bytes_TrimLeft_one Tryd.lays8 a l.length c l cc w rfl hcap hcm' (bytesAt hb) hn0 h128).mono fun e w' ⟨h1, h2⟩ => by subst h2; exact ⟨_, h1, left_bs hb, Ext.refl _⟩
    · refine (any_TrimLeft_set Tryd.lays8 (zero_of_info info_set_TrimLeft).1 (zero_of_info info_set_TrimLeft).2 a l.length c l s w rfl hcap hcm' (bytesAt hb) (by omega) hn0 hs hasc').mono fun e w' ⟨h1, h2⟩ => ?_
      subst h2
      exact ⟨_, h1, left_bs (hb.ext ((Ext.alloc _ _).trans (Ext.alloc _ _))), (Ext.alloc _ _).trans (Ext.alloc _ _)⟩
  · exact any_TrimLeft_uni Tryd.lays8 (zero_of_info info_set_TrimLeft).1 (zero_of_info info_set_TrimLeft).2 a l.length c s w hn0 hs K y hy h128 hasc _ (fun W x => bytes_trimLeftUnicode _ l s W (hb.ext x) (hT.ext x))

set_option maxRecDepth 100000 in
theorem impl_TrimLeft (sv : Value) (l : List UInt8) (s : ByteArray) (w : World) (hb : Bs w sv l) (hT : Tabs w) (hs : s.size ≤ 4611686018427387904) (hl : l.length ≤ 140737488355328) :
    Calls Tryd.prog 22 #[sv, .string s] w (RetOwn w (tlB (inP s.data.toList) l)) := by
  have hr := Nat.le_trans (tlB_len (inP s.data.toList) l) hl
  go_enter Tryd.func22, Tryd.ntmps22
  go_wp2_with (go_at_call 51; refine (bytes_TrimLeft sv l s _ hb hT hs).mono ?_)
  rintro _ w1 ⟨v1, rfl, b1, x1⟩
  go_wp2_with (go_at_call 44; refine (impl_fresh v1 _ _ b1 hr).mono ?_)
  rintro _ w2 ⟨v2, rfl, o2, x2⟩
  go_wp2_with fail
  go_ret
  exact ⟨_, rfl, o2.mono x1.size (Nat.le_refl _), x1.trans x2⟩

theorem info_set_TrimRight : (Tryd.prog.info? (Tryd.lays7_ren.t 27)).map (fun i => (i.zero, i.size)) = some (some (.agg (Array.replicate 256 (.bool false))), 256) := by kernel_rfl
theorem bytes_TrimRight (sv : Value) (l : List UInt8) (s : ByteArray) (w : World) (hb : Bs w sv l) (hT : Tabs w) (hs : s.size ≤ 4611686018427387904) :
    Calls Tryd.prog 53 #[sv, .string s] w (RetB w (trB (inP s.data.toList) l)) := by
  obtain ⟨a, c, hsv, hcap, hcm⟩ := hb.shape
  subst hsv
  have hcm' : c ≤ 9223372036854775807 := by unfold maxLen at hcm; omega
  by_cases hl : l = []
  · subst hl
    exact (Any.bytes_TrimRight_empty Tryd.lays7 a 0 c s w (.inl rfl)).mono fun e w' ⟨h1, h2⟩ => by subst h2; exact ⟨_, h1, hb, Ext.refl _⟩
  have hn0 : 0 < l.length := List.length_pos_iff.2 hl
  by_cases hc0 : s.size = 0
  · have hl0 : s.data.toList = [] := List.eq_nil_of_length_eq_zero (by rw [← Lib.size_eq]; exact hc0)
    refine (Any.bytes_TrimRight_empty Tryd.lays7 a l.length c s w (.inr hc0)).mono fun e w' ⟨h1, h2⟩ => ?_
    subst h2
    refine ⟨_, h1, ?_, Ext.refl _⟩
    rw [hl0, trB_never inP_nil]
    exact hb
  rcases first_high s.data.toList with hasc | ⟨K, y, hy, h128, hasc⟩
  · have hasc' : ∀ (j : Nat) b, s.data.toList[j]? = some b → b.toNat < 128 := fun j b hj => hasc b (List.mem_of_getElem? hj)
    rw [tr_words hasc]
    by_cases hc1 : s.size = 1
    · obtain ⟨cc, hc⟩ : ∃ cc, s.data.toList = [cc] := by
        have hlen : s.data.toList.length = 1 := by rw [← Lib.size_eq]; exact hc1
        match hh : s.data.toList, hlen with
        | [cc], _ => exact ⟨cc, rfl⟩
      have hcut : s = ⟨#[cc]⟩ := by rw [← Lib.mk_data s, hc]
      have h128 : cc.toNat < 128 := hasc cc (by rw [hc]; simp)
      rw [hc, hcut]
      exact (Any.bytes_TrimRight_one Tryd.lays7 a l.length c l cc w rfl hcap hcm' (bytesAt hb) hn0 h128).mono fun e w' ⟨h1, h2⟩ => by subst h2; exact ⟨_, h1, right_bs hb, Ext.refl _⟩
    · refine (any_TrimRight_set Tryd.lays7 (zero_of_info info_set_TrimRight).1 (zero_of_info info_set_TrimRight).2 a l.length c l s w rfl hcap hcm' (bytesAt hb) (by omega) hn0 hs hasc').mono fun e w' ⟨h1, h2⟩ => ?_
      subst h2
      exact ⟨_, h1, right_bs (hb.ext ((Ext.alloc _ _).trans (Ext.alloc _ _))), (Ext.alloc _ _).trans (Ext.alloc _ _)⟩
  · exact any_TrimRight_uni Tryd.lays7 (zero_of_info info_set_TrimRight).1 (zero_of_info info_set_TrimRight).2 a l.length c s w hn0 hs K y hy h128 hasc _ (fun W x => bytes_trimRightUnicode _ l s W (hb.ext x) (hT.ext x))

set_option maxRecDepth 100000 in
theorem impl_TrimRight (sv : Value) (l : List UInt8) (s : ByteArray) (w : World) (hb : Bs w sv l) (hT : Tabs w) (hs : s.size ≤ 4611686018427387904) (hl : l.length ≤ 140737488355328) :
    Calls Tryd.prog 27 #[sv, .string s] w (RetOwn w (trB (inP s.data.toList) l)) := by
  have hr := Nat.le_trans (trB_len (inP s.data.toList) l) hl
  go_enter Tryd.func27, Tryd.ntmps27
  go_wp2_with (go_at_call 53; refine (bytes_TrimRight sv l s _ hb hT hs).mono ?_)
  rintro _ w1 ⟨v1, rfl, b1, x1⟩
  go_wp2_with (go_at_call 44; refine (impl_fresh v1 _ _ b1 hr).mono ?_)
  rintro _ w2 ⟨v2, rfl, o2, x2⟩
  go_wp2_with fail
  go_ret
  exact ⟨_, rfl, o2.mono x1.size (Nat.le_refl _), x1.trans x2⟩

theorem info_set_Trim : (Tryd.prog.info? (Tryd.lays6_ren.t 27)).map (fun i => (i.zero, i.size)) = some (some (.agg (Array.replicate 256 (.bool false))), 256) := by kernel_rfl
theorem bytes_Trim (sv : Value) (l : List UInt8) (s : ByteArray) (w : World) (hb : Bs w sv l) (hT : Tabs w) (hs : s.size ≤ 4611686018427387904) :
    Calls Tryd.prog 55 #[sv, .string s] w (RetB w (tB (inP s.data.toList) l)) := by
  obtain ⟨a, c, hsv, hcap, hcm⟩ := hb.shape
  subst hsv
  have hcm' : c ≤ 9223372036854775807 := by unfold maxLen at hcm; omega
  by_cases hl : l = []
  · subst hl
    exact (Any.bytes_Trim_none Tryd.lays6 a c s w).mono fun e w' ⟨h1, h2⟩ => by subst h2; exact ⟨_, h1, Bs.nil _, Ext.refl _⟩
  have hn0 : 0 < l.length := List.length_pos_iff.2 hl
  by_cases hc0 : s.size = 0
  · have hl0 : s.data.toList = [] := List.eq_nil_of_length_eq_zero (by rw [← Lib.size_eq]; exact hc0)
    refine (Any.bytes_Trim_nocut Tryd.lays6 a l.length c s w hn0 hc0).mono fun e w' ⟨h1, h2⟩ => ?_
    subst h2
    refine ⟨_, h1, ?_, Ext.refl _⟩
    rw [hl0, tB_never inP_nil]
    exact hb
  rcases first_high s.data.toList with hasc | ⟨K, y, hy, h128, hasc⟩
  · have hasc' : ∀ (j : Nat) b, s.data.toList[j]? = some b → b.toNat < 128 := fun j b hj => hasc b (List.mem_of_getElem? hj)
    rw [t_words hasc]
    by_cases hc1 : s.size = 1
    · obtain ⟨cc, hc⟩ : ∃ cc, s.data.toList = [cc] := by
        have hlen : s.data.toList.length = 1 := by rw [← Lib.size_eq]; exact hc1
        match hh : s.data.toList, hlen with
        | [cc], _ => exact ⟨cc, rfl⟩
      have hcut : s = ⟨#[cc]⟩ := by rw [← Lib.mk_data s, hc]
      have h128 : cc.toNat < 128 := hasc cc (by rw [hc]; simp)
      rw [hc, hcut]
      exact (Any.bytes_Trim_one Tryd.lays6 a l.length c l cc w rfl hcap hcm' (bytesAt hb) hn0 h128).mono fun e w' ⟨h1, q, h2⟩ => by subst h2; exact ⟨_, h1, both_bs (hb.ext (Ext.drewN _ _)), Ext.drewN _ _⟩
    · refine (any_Trim_set Tryd.lays6 (zero_of_info info_set_Trim).1 (zero_of_info info_set_Trim).2 a l.length c l s w rfl hcap hcm' (bytesAt hb) (by omega) hn0 hs hasc').mono fun e w' ⟨h1, h2⟩ => ?_
      subst h2
      exact ⟨_, h1, both_bs (hb.ext ((Ext.alloc _ _).trans (Ext.alloc _ _))), (Ext.alloc _ _).trans (Ext.alloc _ _)⟩
  · exact any_Trim_uni Tryd.lays6 (zero_of_info info_set_Trim).1 (zero_of_info info_set_Trim).2 a l.length c s w hn0 hs K y hy h128 hasc _ (trB (inP s.data.toList) l) (fun W x => bytes_trimRightUnicode _ l s W (hb.ext x) (hT.ext x)) (fun W v x b => by rw [← tB_trB]; exact bytes_trimLeftUnicode v _ s W b (hT.ext x))

set_option maxRecDepth 100000 in
theorem impl_Trim (sv : Value) (l : List UInt8) (s : ByteArray) (w : World) (hb : Bs w sv l) (hT : Tabs w) (hs : s.size ≤ 4611686018427387904) (hl : l.length ≤ 140737488355328) :
    Calls Tryd.prog 29 #[sv, .string s] w (RetOwn w (tB (inP s.data.toList) l)) := by
  have hr := Nat.le_trans (tB_len (inP s.data.toList) l) hl
  go_enter Tryd.func29, Tryd.ntmps29
  go_wp2_with (go_at_call 55; refine (bytes_Trim sv l s _ hb hT hs).mono ?_)
  rintro _ w1 ⟨v1, rfl, b1, x1⟩
  go_wp2_with (go_at_call 44; refine (impl_fresh v1 _ _ b1 hr).mono ?_)
  rintro _ w2 ⟨v2, rfl, o2, x2⟩
  go_wp2_with fail
  go_ret
  exact ⟨_, rfl, o2.mono x1.size (Nat.le_refl _), x1.trans x2⟩

set_option maxRecDepth 100000 in
theorem spec_among (s : ByteArray) (w : World) (hs : s.size ≤ 1099511627776) :
    Calls Tryd.prog 73 #[.string s] w (RetTest w (runesOf (chunks s.data.toList)) false) := by
  have cP := fun W => spec_points s W hs
  obtain ⟨rs, hrs⟩ : ∃ rs, runesOf (chunks s.data.toList) = rs := ⟨_, rfl⟩
  simp only [hrs] at cP
  rw [hrs]
  clear hrs
  obtain ⟨n, hn⟩ : ∃ n, w.heap.size = n := ⟨_, rfl⟩
  go_enter Tryd.func73, Tryd.ntmps73
  go_wp2_with (go_at_call 58; refine (cP _).mono ?_)
  rintro _ w2 ⟨v2, rfl, o2, x2⟩
  have i2 := vs_of_owns o2
  obtain ⟨_, a2, c2, rfl, _, _, _⟩ := i2
  have b0 : w2.heap[n]? = some (.cells #[.slice none 0 0, .bool false] 36 (0, 0)) := by
    rw [x2.block (k := n) (by simp [hn]), ← hn]
    exact heap_alloc_new w _
  have s20 : w2.cell? ⟨n, 0, none⟩ = some (.slice none 0 0) := by simp [World.cell?, b0]
  have s21 : w2.cell? ⟨n, 1, none⟩ = some (.bool false) := by simp [World.cell?, b0]
  have z20 : w2.frozen? ⟨n, 0, none⟩ = false := by simp [World.frozen?, b0]
  have z21 : w2.frozen? ⟨n, 1, none⟩ = false := by simp [World.frozen?, b0]
  have HB := Lib.hid b0
  have hsz : (w.alloc (.cells #[.slice none 0 0, .bool false] 36)).heap.size = n + 1 := by simp [hn]
  rw [hsz] at o2
  have HO := Lib.hid o2
  have HX := Lib.hid x2
  have HN := Lib.hid hn
  clear b0 o2 x2 hn cP hsz
  go_wp2_with fail
  (try simp only [Exit.inBlock, Exit.then])
  have hf := HB.out
  refine bodyPost_ret (results_cell_row rfl _ _ n 36 #[.slice a2 rs.length c2, .bool false] (0, 0) _ rfl ?_ Tryd.underlying36 rfl (by kernel_rfl)) rfl ?_
  · simp only [World.setCell, Array.getElem?_modify]
    simp [hf]
  · have hfr : Fr n (n + 1) w2 ((w2.setCell ⟨n, 0, none⟩ (.slice a2 rs.length c2)).setCell ⟨n, 1, none⟩ (.bool false)) :=
      (Fr.setCell (by simp) (by simp) _).trans (Fr.setCell (by simp) (by simp) _)
    refine ⟨_, rfl, ?_, ?_⟩
    · have := vs_of_owns (owns_keepFr HO.out hfr (Nat.le_refl _))
      exact this
    · refine ⟨?_⟩
      have hb := ((Ext.alloc w _).trans HX.out).below
      exact below_fr hb hfr (.inl (by rw [HN.out]; exact Nat.le_refl _)) ((Ext.alloc w _).trans HX.out).size

set_option maxRecDepth 100000 in
theorem spec_TextTrimLeft (s t : ByteArray) (w : World) (hs : s.size ≤ 1099511627776) (ht : t.size ≤ 1099511627776) :
    Calls Tryd.prog 50 #[.string s, .string t] w (RetV (.string ⟨(tlB (inP t.data.toList) s.data.toList).toArray⟩) w) := by
  go_enter Tryd.func50, Tryd.ntmps50
  go_wp2_with (go_at_call 73; refine (spec_among t _ ht).mono ?_)
  rintro _ w1 ⟨v1, rfl, i1, x1⟩
  obtain ⟨a1, c1, rfl, _, _, _⟩ := i1.raw
  go_wp2_with (go_at_call 72; refine (spec_trimLeft s _ _ false _ hs i1).mono ?_)
  rintro _ w2 ⟨rfl, x2⟩
  go_wp2_with fail
  go_ret
  exact ⟨rfl, x1.trans x2⟩

set_option maxRecDepth 100000 in
theorem spec_TrimLeft (sv : Value) (l : List UInt8) (t : ByteArray) (w : World) (hl : l.length ≤ 1099511627776) (ht : t.size ≤ 1099511627776) (hb : Bs w sv l) :
    Calls Tryd.prog 20 #[sv, .string t] w (RetOwn w (tlB (inP t.data.toList) l)) := by
  have hlen : (tlB (inP t.data.toList) l).length ≤ maxLen := by
    have e := tlB_len (inP t.data.toList) l
    unfold maxLen; omega
  go_enter Tryd.func20, Tryd.ntmps20
  go_wp2_with (first | refine wpList_toString rfl 24 9 _ rfl 5 Tryd.underlying24 Tryd.underlying5 Tryd.underlying9 _ _ rfl hb ?_ | (go_at_call 50; refine (spec_TextTrimLeft ⟨l.toArray⟩ t _ hl ht).mono ?_))
  rintro _ w1 ⟨rfl, x1⟩
  go_wp2_with (refine wpList_toBytes rfl 9 24 _ rfl 5 Tryd.underlying9 Tryd.underlying24 Tryd.underlying5 _ rfl ?_ ?_)
  · exact hlen
  intro v3 w3 o3 x3
  go_wp2_with fail
  go_ret
  exact ⟨_, rfl, o3.mono x1.size (Nat.le_refl _), x1.trans x3⟩

set_option maxRecDepth 100000 in
theorem spec_TextTrimRight (s t : ByteArray) (w : World) (hs : s.size ≤ 1099511627776) (ht : t.size ≤ 1099511627776) :
    Calls Tryd.prog 52 #[.string s, .string t] w (RetV (.string ⟨(trB (inP t.data.toList) s.data.toList).toArray⟩) w) := by
  go_enter Tryd.func52, Tryd.ntmps52
  go_wp2_with (go_at_call 73; refine (spec_among t _ ht).mono ?_)
  rintro _ w1 ⟨v1, rfl, i1, x1⟩
  obtain ⟨a1, c1, rfl, _, _, _⟩ := i1.raw
  go_wp2_with (go_at_call 78; refine (spec_trimRight s _ _ false _ hs i1).mono ?_)
  rintro _ w2 ⟨rfl, x2⟩
  go_wp2_with fail
  go_ret
  exact ⟨rfl, x1.trans x2⟩

set_option maxRecDepth 100000 in
theorem spec_TrimRight (sv : Value) (l : List UInt8) (t : ByteArray) (w : World) (hl : l.length ≤ 1099511627776) (ht : t.size ≤ 1099511627776) (hb : Bs w sv l) :
    Calls Tryd.prog 26 #[sv, .string t] w (RetOwn w (trB (inP t.data.toList) l)) := by
  have hlen : (trB (inP t.data.toList) l).length ≤ maxLen := by
    have e := trB_len (inP t.data.toList) l
    unfold maxLen; omega
  go_enter Tryd.func26, Tryd.ntmps26
  go_wp2_with (first | refine wpList_toString rfl 24 9 _ rfl 5 Tryd.underlying24 Tryd.underlying5 Tryd.underlying9 _ _ rfl hb ?_ | (go_at_call 52; refine (spec_TextTrimRight ⟨l.toArray⟩ t _ hl ht).mono ?_))
  rintro _ w1 ⟨rfl, x1⟩
  go_wp2_with (refine wpList_toBytes rfl 9 24 _ rfl 5 Tryd.underlying9 Tryd.underlying24 Tryd.underlying5 _ rfl ?_ ?_)
  · exact hlen
  intro v3 w3 o3 x3
  go_wp2_with fail
  go_ret
  exact ⟨_, rfl, o3.mono x1.size (Nat.le_refl _), x1.trans x3⟩

set_option maxRecDepth 100000 in
theorem spec_TextTrim (s t : ByteArray) (w : World) (hs : s.size ≤ 1099511627776) (ht : t.size ≤ 1099511627776) :
    Calls Tryd.prog 54 #[.string s, .string t] w (RetV (.string ⟨(tB (inP t.data.toList) s.data.toList).toArray⟩) w) := by
  have hl1 : (⟨(tlB (inP t.data.toList) s.data.toList).toArray⟩ : ByteArray).size ≤ 1099511627776 := by
    have := tlB_len (inP t.data.toList) s.data.toList
    exact Nat.le_trans this hs
  go_enter Tryd.func54, Tryd.ntmps54
  go_wp2_with (go_at_call 73; refine (spec_among t _ ht).mono ?_)
  rintro _ w1 ⟨v1, rfl, i1, x1⟩
  obtain ⟨a1, c1, rfl, _, _, _⟩ := i1.raw
  go_wp2_with (go_at_call 72; refine (spec_trimLeft s _ _ false _ hs i1).mono ?_)
  rintro _ w2 ⟨rfl, x2⟩
  go_wp2_with (go_at_call 73; refine (spec_among t _ ht).mono ?_)
  rintro _ w3 ⟨v3, rfl, i3, x3⟩
  obtain ⟨a3, c3, rfl, _, _, _⟩ := i3.raw
  go_wp2_with (go_at_call 78; refine (spec_trimRight _ _ _ false _ hl1 i3).mono ?_)
  rintro _ w4 ⟨rfl, x4⟩
  go_wp2_with fail
  go_ret
  exact ⟨rfl, x1.trans (x2.trans (x3.trans x4))⟩

set_option maxRecDepth 100000 in
theorem spec_Trim (sv : Value) (l : List UInt8) (t : ByteArray) (w : World) (hl : l.length ≤ 1099511627776) (ht : t.size ≤ 1099511627776) (hb : Bs w sv l) :
    Calls Tryd.prog 28 #[sv, .string t] w (RetOwn w (tB (inP t.data.toList) l)) := by
  have hlen : (tB (inP t.data.toList) l).length ≤ maxLen := by
    have e := tB_len (inP t.data.toList) l
    unfold maxLen; omega
  go_enter Tryd.func28, Tryd.ntmps28
  go_wp2_with (first | refine wpList_toString rfl 24 9 _ rfl 5 Tryd.underlying24 Tryd.underlying5 Tryd.underlying9 _ _ rfl hb ?_ | (go_at_call 54; refine (spec_TextTrim ⟨l.toArray⟩ t _ hl ht).mono ?_))
  rintro _ w1 ⟨rfl, x1⟩
  go_wp2_with (refine wpList_toBytes rfl 9 24 _ rfl 5 Tryd.underlying9 Tryd.underlying24 Tryd.underlying5 _ rfl ?_ ?_)
  · exact hlen
  intro v3 w3 o3 x3
  go_wp2_with fail
  go_ret
  exact ⟨_, rfl, o3.mono x1.size (Nat.le_refl _), x1.trans x3⟩

end Go.Proofs.YtdlobdbclgcogaaDoor
