/- The exact laws' helpers on slices of runes. Printed by exacti.py out of those on slices of bytes. -/
import Derived.Test.YtddakfdlgfadeaaDoorSpecR
import Derived.Test.YtddakfdlgfadeaaDoorExact
namespace Go.Proofs.YtddakfdlgfadeaaDoor
open Go.RowKit

/-- The slice value v holds the runes l. -/
def Ii (w : World) (v : Value) (l : List Int) : Prop :=
  ∃ a c, v = .slice a l.length c ∧ l.length ≤ c ∧ c ≤ maxLen ∧
    (l = [] ∨ ∃ b o, a = some ⟨b, o, none⟩ ∧ ∀ i (h : i < l.length), w.cell? ⟨b, o + i, none⟩ = some (.int .i32 l[i]))

theorem Ii.ext {w w' : World} {v : Value} {l : List Int} (h : Ii w v l) (x : Ext w w') : Ii w' v l := by
  obtain ⟨a, c, hv, h1, h2, h3⟩ := h
  refine ⟨a, c, hv, h1, h2, ?_⟩
  rcases h3 with h3 | ⟨b, o, ha, hc⟩
  · exact .inl h3
  · exact .inr ⟨b, o, ha, fun i hi => x.cell (hc i hi)⟩

theorem Ii.nil (w : World) : Ii w (.slice none 0 0) [] := ⟨none, 0, rfl, Nat.le_refl _, Nat.zero_le _, .inl rfl⟩

/-- The slice value v holds the runes l, in a block of its own from 'lo' up to 'hi', which may be written. -/
def OwnI (lo hi : Nat) (w : World) (v : Value) (l : List Int) : Prop :=
  ∃ a c, v = .slice a l.length c ∧ l.length ≤ c ∧ c ≤ maxLen ∧
    (l = [] ∨ ∃ b o, a = some ⟨b, o, none⟩ ∧ lo ≤ b ∧ b < hi ∧ ∀ i (h : i < l.length), w.cell? ⟨b, o + i, none⟩ = some (.int .i32 l[i]) ∧ w.frozen? ⟨b, o + i, none⟩ = false)

theorem OwnI.bs {lo hi : Nat} {w : World} {v : Value} {l : List Int} (h : OwnI lo hi w v l) : Ii w v l := by
  obtain ⟨a, c, hv, h1, h2, h3⟩ := h
  refine ⟨a, c, hv, h1, h2, ?_⟩
  rcases h3 with h3 | ⟨b, o, ha, _, _, hc⟩
  · exact .inl h3
  · exact .inr ⟨b, o, ha, fun i hi => (hc i hi).1⟩

theorem OwnI.mono {lo hi lo' hi' : Nat} {w : World} {v : Value} {l : List Int} (h : OwnI lo hi w v l) (h1 : lo' ≤ lo) (h2 : hi ≤ hi') : OwnI lo' hi' w v l := by
  obtain ⟨a, c, hv, k1, k2, h3⟩ := h
  refine ⟨a, c, hv, k1, k2, ?_⟩
  rcases h3 with h3 | ⟨b, o, ha, b1, b2, hc⟩
  · exact .inl h3
  · exact .inr ⟨b, o, ha, by omega, by omega, hc⟩

theorem OwnI.fr {lo hi lo' hi' : Nat} {w w' : World} {v : Value} {l : List Int} (h : OwnI lo hi w v l) (x : Fr lo' hi' w w') (hd : hi ≤ lo' ∨ hi' ≤ lo) : OwnI lo hi w' v l := by
  obtain ⟨a, c, hv, k1, k2, h3⟩ := h
  refine ⟨a, c, hv, k1, k2, ?_⟩
  rcases h3 with h3 | ⟨b, o, ha, b1, b2, hc⟩
  · exact .inl h3
  · refine .inr ⟨b, o, ha, b1, b2, fun i hi => ?_⟩
    have hb := x.block b (World.block_lt_of_cell? w _ (hc i hi).1) (by omega)
    exact ⟨(World.cell?_of_block (a := ⟨b, o + i, none⟩) hb).trans (hc i hi).1, (World.frozen?_of_block (a := ⟨b, o + i, none⟩) hb).trans (hc i hi).2⟩

theorem OwnI.ext {lo hi : Nat} {w w' : World} {v : Value} {l : List Int} (h : OwnI lo hi w v l) (x : Ext w w') : OwnI lo hi w' v l :=
  (h.fr (x.fr hi hi) (.inl (Nat.le_refl _)))


/-- The cells of a list of runes. -/
def icells (l : List Int) : List Value := l.map fun b => Value.int .i32 b

theorem icells_length (l : List Int) : (icells l).length = l.length := by simp [icells]

/-- Block g is a row of just these bytes, and may be written. -/
def RowI (w : World) (g : Nat) (l : List Int) : Prop := ∃ e, w.heap[g]? = some (.cells (icells l).toArray e (0, 0))

theorem RowI.cell {w : World} {g : Nat} {l : List Int} (h : RowI w g l) (i : Nat) (hi : i < l.length) : w.cell? ⟨g, i, none⟩ = some (.int .i32 l[i]) := by
  obtain ⟨e, h⟩ := h
  simp [World.cell?, h, icells, hi]

theorem RowI.frozen {w : World} {g : Nat} {l : List Int} (h : RowI w g l) (i : Nat) : w.frozen? ⟨g, i, none⟩ = false := by
  obtain ⟨e, h⟩ := h
  simp [World.frozen?, h]

theorem RowI.lt {w : World} {g : Nat} {l : List Int} (h : RowI w g l) : g < w.heap.size := by
  obtain ⟨e, h⟩ := h
  rcases Nat.lt_or_ge g w.heap.size with h' | h'
  · exact h'
  · simp [Array.getElem?_eq_none h'] at h

theorem RowI.ext {w w' : World} {g : Nat} {l : List Int} (h : RowI w g l) (x : Ext w w') : RowI w' g l := by
  have hl := h.lt
  obtain ⟨e, h⟩ := h
  exact ⟨e, (x.block hl).trans h⟩

theorem RowI.fr {lo hi : Nat} {w w' : World} {g : Nat} {l : List Int} (h : RowI w g l) (x : Fr lo hi w w') (hd : g < lo ∨ hi ≤ g) : RowI w' g l := by
  have hl := h.lt
  obtain ⟨e, h⟩ := h
  exact ⟨e, (x.block g hl hd).trans h⟩

theorem RowI.set {w : World} {g : Nat} {l : List Int} (h : RowI w g l) (i : Nat) (b : Int) : RowI (w.setCell ⟨g, i, none⟩ (.int .i32 b)) g (l.set i b) := by
  obtain ⟨e, h⟩ := h
  refine ⟨e, ?_⟩
  simp only [World.setCell, Array.getElem?_modify, if_true, h, Option.map_some]
  simp [icells, List.map_set]

theorem RowI.own {w : World} {g : Nat} {l : List Int} {lo hi : Nat} (h : RowI w g l) (h1 : lo ≤ g) (h2 : g < hi) (c : Nat) (hc : l.length ≤ c) (hm : c ≤ maxLen) : OwnI lo hi w (.slice (some ⟨g, 0, none⟩) l.length c) l :=
  ⟨_, c, rfl, hc, hm, .inr ⟨g, 0, rfl, h1, h2, fun i hi => by rw [Nat.zero_add]; exact ⟨h.cell i hi, h.frozen i⟩⟩⟩

theorem madeCells_ints (n : Nat) : madeCells #[.int .i32 0] n = (icells (List.replicate n 0)).toArray := by
  apply Array.ext
  · simp [madeCells, icells]
  · intro i h1 h2
    simp [madeCells, icells, Nat.mod_one]

/-- 'make([]byte, n)'. -/
theorem wpList_mkInts {P : Program} {ops : Array Oper} {rest : List Oper} {o : Oper} {a : Act} {Q : Exit → Act → World → Prop} {w : World}
    (hw : Region.wanted o (yielded ops a.tmps) = true) (t : TypeId) (x y : Operand) (hop : o.op = Op.makeSlice t x y)
    (e : TypeId) (ht : P.underlying t = some (.slice e)) (hinfo : (P.info? e).map (fun i => (i.zero, i.size, i.bytes)) = some (some (.int .i32 0), 1, 4))
    (n : Nat) (kl kc : IntKind) (hx : a.eval x = .int kl (n : Int)) (hy : a.eval y = .int kc (n : Int)) (hn : n ≤ 70368744177664)
    (hK : ∀ w', RowI w' w.heap.size (List.replicate n 0) → Ext w w' → w'.heap.size = w.heap.size + 1 → wpList P ops Q rest (a.put o.dst (.slice (some ⟨w.heap.size, 0, none⟩) n n)) w') :
    wpList P ops Q (o :: rest) a w := by
  refine wpList_step fun K hK' => ?_
  rw [if_pos hw]
  have hrun := run_make_row' (P := P) t e (.int .i32 0) 4 ht hinfo rfl kl kc n (by omega) (by omega) w
  unfold Oper.wp
  simp [execOp, hop, hx, hy, hrun, Result.andThen]
  refine hK' _ _ (hK _ ⟨e, ?_⟩ (Ext.alloc _ _) (by simp))
  rw [heap_alloc_new, madeCells_ints]

/-- A call's answer: a new slice of the runes l. -/
def RetOwnI (w : World) (l : List Int) (e : Ending) (w' : World) : Prop := ∃ v, e = .returned v ∧ OwnI w.heap.size w'.heap.size w' v l ∧ Ext w w'

/-- What has been copied so far. -/
theorem copied_stepI (l : List Int) (j : Nat) (hj : j < l.length) : ((l.take j ++ List.replicate (l.length - j) 0).set j l[j]) = l.take (j + 1) ++ List.replicate (l.length - (j + 1)) 0 := by
  have e : l.length - j = (l.length - (j + 1)) + 1 := by omega
  rw [e, List.replicate_succ, List.set_append_right _ _ (by simp; omega)]
  simp only [List.length_take, Nat.min_eq_left (Nat.le_of_lt hj), Nat.sub_self, List.set_cons_zero]
  rw [List.take_succ_eq_append_getElem hj, List.append_assoc]
  simp

theorem laws_toInt32S (v : Value) (l : List Int) (w : World) (h : Ii w v l) (hl : l.length ≤ 70368744177664) :
    Calls Tryd.prog 51 #[v] w (RetOwnI w l) := by
  obtain ⟨a, c, rfl, h1, h2, h3⟩ := h
  have hc2 : c ≤ 9223372036854775807 := by unfold maxLen at h2; omega
  clear h2
  go_enter Tryd.func51, Tryd.ntmps51
  go_wp2_with (refine wpList_mkInts rfl 23 _ _ rfl 21 Tryd.underlying23 info_i32 l.length _ _ rfl rfl hl ?_)
  intro w1 r1 x1 _
  go_wp2_with fail
  go_loopg [4] l.length (fun k i wr => ∃ j : Nat, j + k = l.length ∧ i = .int .i64 j ∧ RowI wr w.heap.size (l.take j ++ List.replicate (l.length - j) 0) ∧ Ext w wr)
  case atStart => exact ⟨0, by omega, rfl, by simpa using r1, x1⟩
  case round =>
    obtain ⟨j, hj, rfl, hrow, hx⟩ := hrel
    have HJ := Lib.hid hj
    by_cases hlt : j < l.length
    · rcases h3 with h3 | ⟨b, o, rfl, hcell⟩
      · subst h3; simp at hlt
      have g1 := hx.cell (hcell j hlt)
      obtain ⟨z, g2⟩ : ∃ z, wr.cell? ⟨w.heap.size, j, none⟩ = some z := ⟨_, hrow.cell j (by simp; omega)⟩
      have g3 := hrow.frozen j
      have hst := copied_stepI l j hlt
      have hnew := hrow.set j l[j]
      rw [hst] at hnew
      have hg : 0 < gk := by omega
      clear hst hj hcell
      go_wp2_with fail
      go_roundg (gk - 1)
      case measure => omega
      case rel => exact ⟨j + 1, by have := HJ.out; omega, by go_num, hnew, ⟨hx.below.setCell (Nat.le_refl _) _⟩⟩
    · have hjl : j = l.length := by omega
      subst hjl
      clear hj
      go_wp2_with fail
      go_ret
      refine ⟨_, rfl, ?_, hx⟩
      have : RowI wr w.heap.size l := by simpa using hrow
      exact this.own (Nat.le_refl _) this.lt _ (Nat.le_refl _) (by unfold maxLen; omega)

/-- Two slices of runes are the same, byte by byte. -/
theorem laws_eqInt32S (v1 v2 : Value) (l1 l2 : List Int) (w : World) (h1 : Ii w v1 l1) (h2 : Ii w v2 l2) :
    Calls Tryd.prog 27 #[v1, v2] w fun e w' => e = .returned (.bool (decide (l1 = l2))) ∧ Ext w w' := by
  obtain ⟨a1, c1, rfl, h11, h12, h13⟩ := h1
  obtain ⟨a2, c2, rfl, h21, h22, h23⟩ := h2
  have hc1 : c1 ≤ 9223372036854775807 := by unfold maxLen at h12; omega
  have hc2 : c2 ≤ 9223372036854775807 := by unfold maxLen at h22; omega
  clear h12 h22
  by_cases hlen : l1.length = l2.length
  case neg =>
    have hne : ((l1.length : Int) != (l2.length : Int)) = true := by rw [bne_iff_ne]; omega
    have hd : decide (l1 = l2) = false := by rw [decide_eq_false_iff_not]; exact fun e => hlen (e ▸ rfl)
    rw [hd]
    clear hd
    go_enter Tryd.func27, Tryd.ntmps27
    go_wp2_with fail
    go_ret
    exact ⟨rfl, Ext.refl _⟩
  have hne : ((l1.length : Int) != (l2.length : Int)) = false := by rw [bne_eq_false_iff_eq]; omega
  have HL := Lib.hid hlen
  clear hlen
  go_enter Tryd.func27, Tryd.ntmps27
  go_wp2_with fail
  go_loopg [5] l1.length (fun k i wr => ∃ j : Nat, j + k = l1.length ∧ i = .int .i64 j ∧ l1.take j = l2.take j ∧ Ext w wr)
  case atStart => exact ⟨0, by omega, rfl, rfl, Ext.refl _⟩
  case round =>
    obtain ⟨j, hj, rfl, htk, hx⟩ := hrel
    have HJ := Lib.hid hj
    have HT := Lib.hid htk
    clear htk
    by_cases hlt : j < l1.length
    · have hlt2 : j < l2.length := by rw [← HL.out]; exact hlt
      have hg : 0 < gk := by omega
      rcases h13 with h13 | ⟨b1, o1, rfl, hcell1⟩
      · subst h13; simp at hlt
      rcases h23 with h23 | ⟨b2, o2, rfl, hcell2⟩
      · subst h23; simp at hlt2
      have g1 := hx.cell (hcell1 j hlt)
      have g2 := hx.cell (hcell2 j hlt2)
      have i1 : (j : Int) < (l1.length : Int) := by omega
      have i2 : (j : Int) < (l2.length : Int) := by omega
      clear hj hcell1 hcell2
      by_cases heq : l1[j] = l2[j]
      · have hb : (l1[j] != l2[j]) = false := by rw [heq]; simp
        have HE := Lib.hid heq
        clear heq
        go_wp2_with fail
        go_quiet (fail)
        go_wp2_with fail
        go_roundg (gk - 1)
        case measure => omega
        case rel => exact ⟨j + 1, by have := HJ.out; omega, by go_num, by rw [List.take_succ_eq_append_getElem hlt, List.take_succ_eq_append_getElem hlt2, HT.out, HE.out], hx.trans (Ext.drewN _ _)⟩
      · have hb : (l1[j] != l2[j]) = true := by
          rw [bne_iff_ne]; exact heq
        have hd : decide (l1 = l2) = false := by rw [decide_eq_false_iff_not]; intro e; apply heq; simp [e]
        have HD := Lib.hid hd
        clear heq hd
        go_wp2_with fail
        go_quiet (fail)
        go_wp2_with fail
        go_ret
        exact ⟨by rw [HD.out]; rfl, hx.trans (Ext.drewN _ _)⟩
    · have hd : decide (l1 = l2) = true := by
        have e1 := HT.out
        rw [List.take_of_length_le (by omega), List.take_of_length_le (by have := HL.out; omega)] at e1
        simpa using e1
      have HD := Lib.hid hd
      clear hj hd
      go_wp2_with fail
      go_ret
      exact ⟨by rw [HD.out]; rfl, hx⟩

theorem laws_eqInt32S_same (v1 v2 : Value) (l : List Int) (w : World) (h1 : Ii w v1 l) (h2 : Ii w v2 l) :
    Calls Tryd.prog 27 #[v1, v2] w (RetV (.bool true) w) := by
  refine (laws_eqInt32S v1 v2 l l w h1 h2).mono ?_
  rintro e w' ⟨rfl, x⟩
  exact ⟨by rw [decide_eq_true rfl], x⟩


theorem Ii.is {w : World} {v : Value} {l : List Int} (h : Ii w v l) : Is w v l := by
  obtain ⟨a, c, hv, h1, h2, h3⟩ := h
  refine ⟨by simp, a, c, hv, h1, h2, ?_⟩
  rcases h3 with rfl | ⟨b, o, ha, hc⟩
  · exact .inl rfl
  · refine .inr ⟨b, o, ha, fun i hi => ?_⟩
    have hi' : i < l.length := by simpa using hi
    rw [hc i hi']
    simp
theorem Is.ii {w : World} {v : Value} {l : List Int} (h : Is w v l) : Ii w v l := by
  rcases h.shape with ⟨rfl, a, c, hv, hc⟩ | ⟨b, o, c, hv, h1, h2, hc⟩
  · exact ⟨a, c, hv, Nat.zero_le _, hc, .inl rfl⟩
  · exact ⟨_, c, hv, h1, h2, .inr ⟨b, o, rfl, hc⟩⟩

/-- What is left. -/
def szT (n left : Int) : Int := if left - n < 0 then -1 else left - n
theorem laws_szInt32S (v : Value) (rs : List Int) (left : Int) (w : World) (h : Is w v rs) (h0 : 0 ≤ left) (hl : left ≤ 1048576) :
    Calls Tryd.prog 49 #[v, .int .i64 left] w (RetV (.int .i64 (szT rs.length left)) w) := by
  have hm := h.len
  unfold maxLen at hm
  obtain ⟨a, c, rfl, _, _, _⟩ := h.raw
  unfold szT
  by_cases hlt : left - (rs.length : Int) < 0
  · rw [if_pos hlt]
    go_enter Tryd.func49, Tryd.ntmps49
    go_wp2_with fail
    go_ret
    exact ⟨rfl, Ext.refl _⟩
  · rw [if_neg hlt]
    go_enter Tryd.func49, Tryd.ntmps49
    go_wp2_with fail
    go_ret
    exact ⟨rfl, Ext.refl _⟩
set_option maxRecDepth 100000 in
theorem laws_szTest (v : Value) (rs : List Int) (nt : Bool) (left : Int) (w : World) (h : Is w v rs) (h0 : 0 ≤ left) (hl : left ≤ 1048576) :
    Calls Tryd.prog 15 #[.agg #[v, .bool nt], .int .i64 left] w (RetV (.int .i64 (szT rs.length left)) w) := by
  obtain ⟨a, c, rfl, _, _, _⟩ := h.raw
  go_enter Tryd.func15, Tryd.ntmps15
  go_wp2_with (go_at_call 49; refine (laws_szInt32S _ _ _ _ (h.ext (Ext.alloc _ _)) h0 hl).mono ?_)
  rintro _ w1 ⟨rfl, x1⟩
  by_cases hlt : szT rs.length left < 0
  · have e : szT rs.length left = -1 := by unfold szT at hlt ⊢; split <;> first | rfl | (rw [if_neg (by assumption)] at hlt; omega)
    have HE := Lib.hid e
    rw [e]
    clear hlt e
    go_wp2_with fail
    go_ret
    exact ⟨by rw [HE.out]; rfl, (Ext.alloc _ _).trans x1⟩
  · obtain ⟨z, hz⟩ : ∃ z, szT rs.length left = z := ⟨_, rfl⟩
    rw [hz] at hlt ⊢
    have HE := Lib.hid hz
    clear hz
    go_wp2_with fail
    go_ret
    exact ⟨by rw [HE.out]; rfl, (Ext.alloc _ _).trans x1⟩
theorem alloc3_heap (w : World) (A B C : Obj) : (((w.alloc A).alloc B).alloc C).heap[w.heap.size]? = some A ∧ (((w.alloc A).alloc B).alloc C).heap[w.heap.size + 1]? = some B ∧
    (((w.alloc A).alloc B).alloc C).heap[w.heap.size + 1 + 1]? = some C ∧ (((w.alloc A).alloc B).alloc C).heap.size = w.heap.size + 3 := by
  show (((w.heap.push A).push B).push C)[w.heap.size]? = some A ∧ (((w.heap.push A).push B).push C)[w.heap.size + 1]? = some B ∧ (((w.heap.push A).push B).push C)[w.heap.size + 1 + 1]? = some C ∧ (((w.heap.push A).push B).push C).size = _
  generalize w.heap = h
  refine ⟨?_, ?_, ?_, ?_⟩
  · rw [Array.getElem?_push, if_neg (by simp; omega), Array.getElem?_push, if_neg (by simp), Array.getElem?_push, if_pos rfl]
  · rw [Array.getElem?_push, if_neg (by simp), Array.getElem?_push, if_pos (by simp)]
  · rw [Array.getElem?_push, if_pos (by simp)]
  · simp

set_option maxRecDepth 100000 in
theorem laws_toTest (v : Value) (rs : List Int) (nt : Bool) (w : World) (h : Is w v rs) (hl : rs.length ≤ 70368744177664) :
    Calls Tryd.prog 18 #[.agg #[v, .bool nt]] w fun e w' => ∃ v', e = .returned (.agg #[v', .bool nt]) ∧ OwnI w.heap.size w'.heap.size w' v' rs ∧ Ext w w' := by
  obtain ⟨a, c, rfl, _, _, _⟩ := h.raw
  go_enter Tryd.func18, Tryd.ntmps18
  go_wp2_with (go_at_call 51; refine (laws_toInt32S _ rs _ ((h.ext ((Ext.alloc _ _).trans ((Ext.alloc _ _).trans (Ext.alloc _ _)))).ii) hl).mono ?_)
  rintro _ w4 ⟨v4, rfl, o4, x4⟩
  have o5 := o4
  obtain ⟨a4, c4, rfl, _⟩ := o4
  obtain ⟨n, hn⟩ : ∃ n, w.heap.size = n := ⟨_, rfl⟩
  obtain ⟨q0, q1, q2, q3⟩ := alloc3_heap w (.cells #[.slice a rs.length c, .bool nt] 25) (.cells #[.slice none 0 0, .bool false] 29) (.cells #[.slice none 0 0, .bool false] 29)
  rw [hn] at q0 q1 q2 q3
  have b0 := (x4.block (k := n) (by rw [q3]; omega)).trans q0
  have b1 := (x4.block (k := n + 1) (by rw [q3]; omega)).trans q1
  have b2 := (x4.block (k := n + 1 + 1) (by rw [q3]; omega)).trans q2
  have f00 : w4.cell? ⟨n, 0, none⟩ = some (.slice a rs.length c) := by simp [World.cell?, b0]
  have f01 : w4.cell? ⟨n, 1, none⟩ = some (.bool nt) := by simp [World.cell?, b0]
  have s20 : w4.cell? ⟨n + 1 + 1, 0, none⟩ = some (.slice none 0 0) := by simp [World.cell?, b2]
  have s21 : w4.cell? ⟨n + 1 + 1, 1, none⟩ = some (.bool false) := by simp [World.cell?, b2]
  have s10 : w4.cell? ⟨n + 1, 0, none⟩ = some (.slice none 0 0) := by simp [World.cell?, b1]
  have s11 : w4.cell? ⟨n + 1, 1, none⟩ = some (.bool false) := by simp [World.cell?, b1]
  have z20 : w4.frozen? ⟨n + 1 + 1, 0, none⟩ = false := by simp [World.frozen?, b2]
  have z21 : w4.frozen? ⟨n + 1 + 1, 1, none⟩ = false := by simp [World.frozen?, b2]
  have z10 : w4.frozen? ⟨n + 1, 0, none⟩ = false := by simp [World.frozen?, b1]
  have z11 : w4.frozen? ⟨n + 1, 1, none⟩ = false := by simp [World.frozen?, b1]
  have HB1 := Lib.hid b1
  have HQ3 := Lib.hid q3
  have HX4 := Lib.hid (((Ext.alloc w _).trans ((Ext.alloc _ _).trans (Ext.alloc _ _))).trans x4)
  rw [q3] at o5
  have HO := Lib.hid o5
  clear o5 b0 b1 b2 q0 q1 q2 q3 x4
  go_wp2_with fail
  (try simp only [Exit.inBlock, Exit.then])
  have hf := HB1.out
  refine bodyPost_ret (results_cell_row rfl _ _ (n + 1) 29 #[.slice a4 rs.length c4, .bool nt] (0, 0) _ rfl ?_ Tryd.underlying29 rfl (by kernel_rfl)) rfl ?_
  · simp only [World.setCell, Array.getElem?_modify]
    simp [hf]
  · have hfr : Fr (n + 1) (n + 3) w4 ((((w4.setCell ⟨n + 1 + 1, 0, none⟩ (.slice a4 rs.length c4)).setCell ⟨n + 1 + 1, 1, none⟩ (.bool nt)).setCell ⟨n + 1, 0, none⟩ (.slice a4 rs.length c4)).setCell ⟨n + 1, 1, none⟩ (.bool nt)) :=
      (Fr.setCell (by simp) (by simp) _).trans ((Fr.setCell (by simp) (by simp) _).trans ((Fr.setCell (by simp) (by simp) _).trans (Fr.setCell (by simp) (by simp) _)))
    refine ⟨_, rfl, ?_, ?_⟩
    · rw [hn]
      exact (HO.out.fr hfr (.inr (Nat.le_refl _))).mono (by omega) hfr.size
    · refine ⟨?_⟩
      rw [hn]
      have := HX4.out.below
      rw [hn] at this
      exact below_fr this hfr (.inl (by omega)) (by have := HX4.out.size; omega)
set_option maxRecDepth 100000 in
theorem laws_eqTest (v1 v2 : Value) (rs : List Int) (nt : Bool) (w : World) (h1 : Is w v1 rs) (h2 : Is w v2 rs) :
    Calls Tryd.prog 21 #[.agg #[v1, .bool nt], .agg #[v2, .bool nt]] w (RetV (.bool true) w) := by
  obtain ⟨a1, c1, rfl, _, _, _⟩ := h1.raw
  obtain ⟨a2, c2, rfl, _, _, _⟩ := h2.raw
  have x2 : ∀ A B, Ext w ((w.alloc A).alloc B) := fun A B => (Ext.alloc _ _).trans (Ext.alloc _ _)
  go_enter Tryd.func21, Tryd.ntmps21
  go_wp2_with (go_at_call 27; refine (laws_eqInt32S_same _ _ rs _ (h1.ext (x2 _ _)).ii (h2.ext (x2 _ _)).ii).mono ?_)
  rintro _ w3 ⟨rfl, x3⟩
  obtain ⟨n, hn⟩ : ∃ n, w.heap.size = n := ⟨_, rfl⟩
  have f01 := x3.cell (p := ⟨n, 1, none⟩) (v := .bool nt) (by
    rw [← hn, (Ext.alloc _ _).cell (v := .bool nt)]
    rw [World.cell?_alloc_mark]; rfl)
  have f11 := x3.cell (p := ⟨n + 1, 1, none⟩) (v := .bool nt) (by
    have := heap_alloc2_new w (.cells #[.slice a1 rs.length c1, .bool nt] 29) (.cells #[.slice a2 rs.length c2, .bool nt] 29)
    rw [hn] at this
    simp [World.cell?, this])
  have e1 : (nt != nt) = false := by simp
  go_wp2_with fail
  go_ret
  exact ⟨rfl, (x2 _ _).trans x3⟩
end Go.Proofs.YtddakfdlgfadeaaDoor
