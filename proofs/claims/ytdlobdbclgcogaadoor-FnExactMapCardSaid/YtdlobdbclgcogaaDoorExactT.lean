/- The exact laws' helpers on tables: slices of rows of two numbers, copied, compared, marked. No condition. -/
import Derived.Test.YtdlobdbclgcogaaDoorExactM
import Derived.Test.YtdlobdbclgcogaaDoorTableW
import Derived.Test.YtdlobdbclgcogaaDoorMono
import Derived.Deep.DeepCutAuto
namespace Go.Proofs.YtdlobdbclgcogaaDoor
open Go.RowKit

/-- The rows lie from o on in block b, and may be written. -/
def AtT (w : World) (b o : Nat) (rows : List (Int × Int)) : Prop := ∀ i (h : i < rows.length),
  (w.cell? ⟨b, o + i * 2, none⟩ = some (.int .i32 rows[i].1) ∧ w.frozen? ⟨b, o + i * 2, none⟩ = false) ∧ w.cell? ⟨b, o + i * 2 + 1, none⟩ = some (.int .i32 rows[i].2) ∧ w.frozen? ⟨b, o + i * 2 + 1, none⟩ = false
/-- The slice value v holds the rows, in a block of its own from 'lo' up to 'hi', which may be written. -/
def OwnT (lo hi : Nat) (w : World) (v : Value) (rows : List (Int × Int)) : Prop :=
  ∃ a c, v = .slice a rows.length c ∧ rows.length ≤ c ∧ c ≤ maxLen ∧ (rows = [] ∨ ∃ b o, a = some ⟨b, o, none⟩ ∧ lo ≤ b ∧ b < hi ∧ AtT w b o rows)

theorem tcells_at (xs : List (Int × Int)) (i : Nat) (h : i < (tcells xs).length) : ∃ q, ∃ hq : q < xs.length, (i = q * 2 ∧ (tcells xs)[i] = .int .i32 xs[q].1) ∨ (i = q * 2 + 1 ∧ (tcells xs)[i] = .int .i32 xs[q].2) := by
  have hl := tcells_length xs
  have hq : i / 2 < xs.length := by omega
  have hg := tcells_get xs (i / 2) hq
  refine ⟨i / 2, hq, ?_⟩
  rcases Nat.mod_two_eq_zero_or_one i with h0 | h1
  · left
    have e : i = i / 2 * 2 := by omega
    refine ⟨e, ?_⟩
    have h1 := hg.1
    rw [← e, List.getElem?_eq_getElem h] at h1
    exact Option.some.inj h1
  · right
    have e : i = i / 2 * 2 + 1 := by omega
    refine ⟨e, ?_⟩
    have h1 := hg.2
    rw [← e, List.getElem?_eq_getElem h] at h1
    exact Option.some.inj h1

theorem OwnT.bs {lo hi : Nat} {w : World} {v : Value} {rows : List (Int × Int)} (h : OwnT lo hi w v rows) : Ts w v rows := by
  obtain ⟨a, c, hv, h1, h2, h3⟩ := h
  refine ⟨tcells_length _, a, c, hv, h1, h2, ?_⟩
  rcases h3 with rfl | ⟨b, o, ha, _, _, hc⟩
  · exact .inl rfl
  · refine .inr ⟨b, o, ha, fun i hi => ?_⟩
    obtain ⟨q, hq, ⟨e, e2⟩ | ⟨e, e2⟩⟩ := tcells_at rows i hi
    · rw [e2, e]; exact (hc q hq).1.1
    · rw [e2, e, ← Nat.add_assoc]; exact (hc q hq).2.1

theorem OwnT.mono {lo hi lo' hi' : Nat} {w : World} {v : Value} {l : List (Int × Int)} (h : OwnT lo hi w v l) (h1 : lo' ≤ lo) (h2 : hi ≤ hi') : OwnT lo' hi' w v l := by
  obtain ⟨a, c, hv, k1, k2, h3⟩ := h
  refine ⟨a, c, hv, k1, k2, ?_⟩
  rcases h3 with h3 | ⟨b, o, ha, b1, b2, hc⟩
  · exact .inl h3
  · exact .inr ⟨b, o, ha, by omega, by omega, hc⟩

theorem AtT.keep {w w' : World} {b o : Nat} {rows : List (Int × Int)} (h : AtT w b o rows) (hb : b < w.heap.size → w'.heap[b]? = w.heap[b]?) : AtT w' b o rows := by
  intro i hi
  obtain ⟨⟨h1, h2⟩, h3, h4⟩ := h i hi
  have hk := hb (World.block_lt_of_cell? w _ h1)
  exact ⟨⟨(World.cell?_of_block (a := ⟨b, _, none⟩) hk).trans h1, (World.frozen?_of_block (a := ⟨b, _, none⟩) hk).trans h2⟩, (World.cell?_of_block (a := ⟨b, _, none⟩) hk).trans h3, (World.frozen?_of_block (a := ⟨b, _, none⟩) hk).trans h4⟩

theorem OwnT.fr {lo hi lo' hi' : Nat} {w w' : World} {v : Value} {l : List (Int × Int)} (h : OwnT lo hi w v l) (x : Fr lo' hi' w w') (hd : hi ≤ lo' ∨ hi' ≤ lo) : OwnT lo hi w' v l := by
  obtain ⟨a, c, hv, k1, k2, h3⟩ := h
  refine ⟨a, c, hv, k1, k2, ?_⟩
  rcases h3 with h3 | ⟨b, o, ha, b1, b2, hc⟩
  · exact .inl h3
  · exact .inr ⟨b, o, ha, b1, b2, hc.keep fun hb => x.block b hb (by omega)⟩

theorem OwnT.ext {lo hi : Nat} {w w' : World} {v : Value} {l : List (Int × Int)} (h : OwnT lo hi w v l) (x : Ext w w') : OwnT lo hi w' v l :=
  (h.fr (x.fr hi hi) (.inl (Nat.le_refl _)))

/-- Block g is a row of just these rows, and may be written. -/
def RowT (w : World) (g : Nat) (rows : List (Int × Int)) : Prop := ∃ e, w.heap[g]? = some (.cells (tcells rows).toArray e (0, 0))
theorem RowT.lt {w : World} {g : Nat} {l : List (Int × Int)} (h : RowT w g l) : g < w.heap.size := by
  obtain ⟨e, h⟩ := h
  rcases Nat.lt_or_ge g w.heap.size with h' | h'
  · exact h'
  · simp [Array.getElem?_eq_none h'] at h
theorem RowT.ext {w w' : World} {g : Nat} {l : List (Int × Int)} (h : RowT w g l) (x : Ext w w') : RowT w' g l := by
  have hl := h.lt
  obtain ⟨e, h⟩ := h
  exact ⟨e, (x.block hl).trans h⟩
theorem RowT.at {w : World} {g : Nat} {rows : List (Int × Int)} (h : RowT w g rows) : AtT w g 0 rows := by
  obtain ⟨e, h⟩ := h
  intro i hi
  have hg := tcells_get rows i hi
  refine ⟨⟨?_, ?_⟩, ?_, ?_⟩
  · simp [World.cell?, h, hg.1]
  · simp [World.frozen?, h]
  · simp [World.cell?, h, hg.2]
  · simp [World.frozen?, h]
theorem tcells_set : ∀ (rows : List (Int × Int)) (i : Nat) (p q : Int), tcells (rows.set i (p, q)) = ((tcells rows).set (i * 2) (.int .i32 p)).set (i * 2 + 1) (.int .i32 q)
  | [], _, _, _ => rfl
  | x :: xs, 0, p, q => rfl
  | x :: xs, i + 1, p, q => by
    have ih := tcells_set xs i p q
    have e1 : (i + 1) * 2 = i * 2 + 1 + 1 := by omega
    rw [e1, List.set_cons_succ, tcells, tcells, ih]
    rfl
theorem RowT.set {w : World} {g : Nat} {rows : List (Int × Int)} (h : RowT w g rows) (i : Nat) (p q : Int) : RowT ((w.setCell ⟨g, i * 2, none⟩ (.int .i32 p)).setCell ⟨g, i * 2 + 1, none⟩ (.int .i32 q)) g (rows.set i (p, q)) := by
  obtain ⟨e, h⟩ := h
  refine ⟨e, ?_⟩
  simp only [World.setCell, Array.getElem?_modify, if_true, h, Option.map_some]
  simp [tcells_set]
theorem RowT.own {w : World} {g : Nat} {l : List (Int × Int)} {lo hi : Nat} (h : RowT w g l) (h1 : lo ≤ g) (h2 : g < hi) (c : Nat) (hc : l.length ≤ c) (hm : c ≤ maxLen) : OwnT lo hi w (.slice (some ⟨g, 0, none⟩) l.length c) l :=
  ⟨_, c, rfl, hc, hm, .inr ⟨g, 0, rfl, h1, h2, h.at⟩⟩

theorem tcells_zero : ∀ n : Nat, tcells (List.replicate n (0, 0)) = List.replicate (n * 2) (.int .i32 0)
  | 0 => rfl
  | n + 1 => by
    have e : (n + 1) * 2 = n * 2 + 1 + 1 := by omega
    rw [e, List.replicate_succ, List.replicate_succ, List.replicate_succ, tcells, tcells_zero n]
theorem madeCells_rows (n : Nat) : madeCells #[.int .i32 0, .int .i32 0] (n * 2) = (tcells (List.replicate n (0, 0))).toArray := by
  rw [tcells_zero]
  apply Array.ext
  · simp [madeCells]
  · intro i h1 h2
    rcases Nat.mod_two_eq_zero_or_one i with h | h <;> simp [madeCells, h]

/-- 'make([]Row, n)'. -/
theorem wpList_mkRows {P : Program} {ops : Array Oper} {rest : List Oper} {o : Oper} {a : Act} {Q : Exit → Act → World → Prop} {w : World}
    (hw : Region.wanted o (yielded ops a.tmps) = true) (t : TypeId) (x y : Operand) (hop : o.op = Op.makeSlice t x y)
    (e : TypeId) (ht : P.underlying t = some (.slice e)) (hinfo : (P.info? e).map (fun i => (i.zero, i.size, i.bytes)) = some (some (.agg #[.int .i32 0, .int .i32 0]), 2, 8))
    (n : Nat) (kl kc : IntKind) (hx : a.eval x = .int kl (n : Int)) (hy : a.eval y = .int kc (n : Int)) (hn : n ≤ 35184372088832)
    (hK : ∀ w', RowT w' w.heap.size (List.replicate n (0, 0)) → Ext w w' → w'.heap.size = w.heap.size + 1 → wpList P ops Q rest (a.put o.dst (.slice (some ⟨w.heap.size, 0, none⟩) n n)) w') :
    wpList P ops Q (o :: rest) a w := by
  refine wpList_step fun K hK' => ?_
  rw [if_pos hw]
  obtain ⟨i, hi, hzz⟩ := Option.map_eq_some_iff.1 hinfo
  simp only [Prod.mk.injEq] at hzz
  obtain ⟨hz, hs, hby⟩ := hzz
  have hrun := run_make (P := P) w t e i _ ht hi hz kl kc n n (by omega) (Int.le_refl _) (by rw [hby]; omega) (by omega)
  simp only [Int.toNat_natCast, hs] at hrun
  unfold Oper.wp
  simp [execOp, hop, hx, hy, hrun, Result.andThen]
  refine hK' _ _ (hK _ ⟨e, ?_⟩ (Ext.alloc _ _) (by simp))
  rw [heap_alloc_new, ← madeCells_rows]
  rfl

theorem copied_stepT (l : List (Int × Int)) (j : Nat) (hj : j < l.length) : ((l.take j ++ List.replicate (l.length - j) (0, 0)).set j l[j]) = l.take (j + 1) ++ List.replicate (l.length - (j + 1)) (0, 0) := by
  have e : l.length - j = (l.length - (j + 1)) + 1 := by omega
  rw [e, List.replicate_succ, List.set_append_right _ _ (by simp; omega)]
  simp only [List.length_take, Nat.min_eq_left (Nat.le_of_lt hj), Nat.sub_self, List.set_cons_zero]
  rw [List.take_succ_eq_append_getElem hj, List.append_assoc]
  simp

set_option maxRecDepth 100000 in
theorem laws_toRow (p q : Int) (w : World) : Calls Tryd.prog 87 #[.agg #[.int .i32 p, .int .i32 q]] w (RetV (.agg #[.int .i32 p, .int .i32 q]) w) := by
  go_enter Tryd.func87, Tryd.ntmps87
  go_upto_region 2 with fail
  obtain ⟨n, hn⟩ : ∃ n, w.heap.size = n := ⟨_, rfl⟩
  obtain ⟨q0, q1, q2, q3⟩ := alloc3_heap w (.cells #[.int .i32 p, .int .i32 q] 92) (.cells #[.int .i32 0, .int .i32 0] 59) (.cells #[.int .i32 0, .int .i32 0] 59)
  rw [hn] at q0 q1 q2 q3
  have x4 : Ext w (((w.alloc (.cells #[.int .i32 p, .int .i32 q] 92)).alloc (.cells #[.int .i32 0, .int .i32 0] 59)).alloc (.cells #[.int .i32 0, .int .i32 0] 59)) := (Ext.alloc _ _).trans ((Ext.alloc _ _).trans (Ext.alloc _ _))
  obtain ⟨w4, hw4⟩ : ∃ w4, ((w.alloc (.cells #[.int .i32 p, .int .i32 q] 92)).alloc (.cells #[.int .i32 0, .int .i32 0] 59)).alloc (.cells #[.int .i32 0, .int .i32 0] 59) = w4 := ⟨_, rfl⟩
  rw [hw4] at q0 q1 q2 q3 x4 ⊢
  rw [hn]
  have f00 : w4.cell? ⟨n, 0, none⟩ = some (.int .i32 p) := by simp [World.cell?, q0]
  have f01 : w4.cell? ⟨n, 1, none⟩ = some (.int .i32 q) := by simp [World.cell?, q0]
  have s20 : w4.cell? ⟨n + 1 + 1, 0, none⟩ = some (.int .i32 0) := by simp [World.cell?, q2]
  have s21 : w4.cell? ⟨n + 1 + 1, 1, none⟩ = some (.int .i32 0) := by simp [World.cell?, q2]
  have s10 : w4.cell? ⟨n + 1, 0, none⟩ = some (.int .i32 0) := by simp [World.cell?, q1]
  have s11 : w4.cell? ⟨n + 1, 1, none⟩ = some (.int .i32 0) := by simp [World.cell?, q1]
  have z20 : w4.frozen? ⟨n + 1 + 1, 0, none⟩ = false := by simp [World.frozen?, q2]
  have z21 : w4.frozen? ⟨n + 1 + 1, 1, none⟩ = false := by simp [World.frozen?, q2]
  have z10 : w4.frozen? ⟨n + 1, 0, none⟩ = false := by simp [World.frozen?, q1]
  have z11 : w4.frozen? ⟨n + 1, 1, none⟩ = false := by simp [World.frozen?, q1]
  have HB1 := Lib.hid q1
  have HX4 := Lib.hid x4
  have HQ3 := Lib.hid q3
  have HN := Lib.hid hn
  clear q0 q1 q2 q3 x4 hw4 hn
  go_wp2_with fail
  (try simp only [Exit.inBlock, Exit.then])
  have hf := HB1.out
  refine bodyPost_ret (results_cell_row rfl _ _ (n + 1) 59 #[.int .i32 p, .int .i32 q] (0, 0) _ rfl ?_ Tryd.underlying59 rfl (by kernel_rfl)) rfl ?_
  · simp only [World.setCell, Array.getElem?_modify]
    simp [hf]
  · have hfr : Fr (n + 1) (n + 3) w4 ((((w4.setCell ⟨n + 1 + 1, 0, none⟩ (.int .i32 p)).setCell ⟨n + 1 + 1, 1, none⟩ (.int .i32 q)).setCell ⟨n + 1, 0, none⟩ (.int .i32 p)).setCell ⟨n + 1, 1, none⟩ (.int .i32 q)) :=
      (Fr.setCell (by simp) (by simp) _).trans ((Fr.setCell (by simp) (by simp) _).trans ((Fr.setCell (by simp) (by simp) _).trans (Fr.setCell (by simp) (by simp) _)))
    refine ⟨rfl, ⟨?_⟩⟩
    have := HX4.out.below
    rw [HN.out] at this ⊢
    exact below_fr this hfr (.inl (by omega)) (by have := HX4.out.size; have := HN.out; omega)

set_option maxRecDepth 100000 in
theorem laws_eqRow (p q : Int) (w : World) : Calls Tryd.prog 88 #[.agg #[.int .i32 p, .int .i32 q], .agg #[.int .i32 p, .int .i32 q]] w (RetV (.bool true) w) := by
  go_enter Tryd.func88, Tryd.ntmps88
  go_upto_region 1 with fail
  have x2 : Ext w ((w.alloc (.cells #[.int .i32 p, .int .i32 q] 59)).alloc (.cells #[.int .i32 p, .int .i32 q] 59)) := (Ext.alloc _ _).trans (Ext.alloc _ _)
  obtain ⟨n, hn⟩ : ∃ n, w.heap.size = n := ⟨_, rfl⟩
  have b0 : ((w.alloc (.cells #[.int .i32 p, .int .i32 q] 59)).alloc (.cells #[.int .i32 p, .int .i32 q] 59)).heap[n]? = some (.cells #[.int .i32 p, .int .i32 q] 59) := by
    rw [(Ext.alloc _ _).block (by rw [World.size_alloc, hn]; omega), ← hn, heap_alloc_new]
  have b1 : ((w.alloc (.cells #[.int .i32 p, .int .i32 q] 59)).alloc (.cells #[.int .i32 p, .int .i32 q] 59)).heap[n + 1]? = some (.cells #[.int .i32 p, .int .i32 q] 59) := by
    have := heap_alloc2_new w (.cells #[.int .i32 p, .int .i32 q] 59) (.cells #[.int .i32 p, .int .i32 q] 59)
    rwa [hn] at this
  obtain ⟨w2, hw2⟩ : ∃ w2, (w.alloc (.cells #[.int .i32 p, .int .i32 q] 59)).alloc (.cells #[.int .i32 p, .int .i32 q] 59) = w2 := ⟨_, rfl⟩
  rw [hw2] at x2 b0 b1 ⊢
  rw [hn]
  have f00 : w2.cell? ⟨n, 0, none⟩ = some (.int .i32 p) := by simp [World.cell?, b0]
  have f01 : w2.cell? ⟨n, 1, none⟩ = some (.int .i32 q) := by simp [World.cell?, b0]
  have f10 : w2.cell? ⟨n + 1, 0, none⟩ = some (.int .i32 p) := by simp [World.cell?, b1]
  have f11 : w2.cell? ⟨n + 1, 1, none⟩ = some (.int .i32 q) := by simp [World.cell?, b1]
  have e1 : (p != p) = false := by simp
  have e2 : (q != q) = false := by simp
  clear b0 b1 hw2 hn
  go_wp2_with fail
  go_ret
  exact ⟨rfl, x2⟩

/-- What is left. -/
def szT (n left : Int) : Int := if left - n < 0 then -1 else left - n
theorem laws_szRowS (v : Value) (rows : List (Int × Int)) (left : Int) (w : World) (h : Ts w v rows) (h0 : 0 ≤ left) (hl : left ≤ 1048576) :
    Calls Tryd.prog 64 #[v, .int .i64 left] w (RetV (.int .i64 (szT rows.length left)) w) := by
  have hm := Vs.len h
  unfold maxLen at hm
  obtain ⟨a, c, rfl, _, _, _⟩ := h.raw
  unfold szT
  by_cases hlt : left - (rows.length : Int) < 0
  · rw [if_pos hlt]
    go_enter Tryd.func64, Tryd.ntmps64
    go_wp2_with fail
    go_ret
    exact ⟨rfl, Ext.refl _⟩
  · rw [if_neg hlt]
    go_enter Tryd.func64, Tryd.ntmps64
    go_wp2_with fail
    go_ret
    exact ⟨rfl, Ext.refl _⟩
set_option maxRecDepth 100000 in
theorem laws_szTable (v : Value) (rows : List (Int × Int)) (left : Int) (w : World) (h : Ts w v rows) (h0 : 0 ≤ left) (hl : left ≤ 1048576) :
    Calls Tryd.prog 38 #[.agg #[v], .int .i64 left] w (RetV (.int .i64 (szT rows.length left)) w) := by
  obtain ⟨a, c, rfl, _, _, _⟩ := h.raw
  go_enter Tryd.func38, Tryd.ntmps38
  go_wp2_with (go_at_call 64; refine (laws_szRowS _ rows _ _ (h.ext (Ext.alloc _ _)) h0 hl).mono ?_)
  rintro _ w1 ⟨rfl, x1⟩
  by_cases hlt : szT rows.length left < 0
  · have e : szT rows.length left = -1 := by unfold szT at hlt ⊢; split <;> first | rfl | (rw [if_neg (by assumption)] at hlt; omega)
    have HE := Lib.hid e
    rw [e]
    clear hlt e
    go_wp2_with fail
    go_ret
    exact ⟨by rw [HE.out]; rfl, (Ext.alloc _ _).trans x1⟩
  · obtain ⟨z, hz⟩ : ∃ z, szT rows.length left = z := ⟨_, rfl⟩
    rw [hz] at hlt ⊢
    have HE := Lib.hid hz
    clear hz
    go_wp2_with fail
    go_ret
    exact ⟨by rw [HE.out]; rfl, (Ext.alloc _ _).trans x1⟩

/-- A call's answer: a new slice of the rows. -/
def RetOwnT (w : World) (rows : List (Int × Int)) (e : Ending) (w' : World) : Prop := ∃ v, e = .returned v ∧ OwnT w.heap.size w'.heap.size w' v rows ∧ Ext w w'

set_option maxRecDepth 100000 in
theorem laws_toRowS (v : Value) (rows : List (Int × Int)) (w : World) (h : Ts w v rows) (hl : rows.length ≤ 1048576) :
    Calls Tryd.prog 66 #[v] w (RetOwnT w rows) := by
  obtain ⟨a, c, rfl, h1, h2, h3⟩ := h.raw
  have hc2 : c ≤ 9223372036854775807 := by unfold maxLen at h2; omega
  have HC := Lib.hid h3
  clear h h2 h3
  go_enter Tryd.func66, Tryd.ntmps66
  go_wp2_with (refine wpList_mkRows rfl 26 _ _ rfl 59 Tryd.underlying26 info_row rows.length _ _ rfl rfl (by omega) ?_)
  intro w1 r1 x1 _
  go_wp2_with fail
  obtain ⟨g, hgs⟩ : ∃ g, w.heap.size = g := ⟨_, rfl⟩
  rw [hgs] at r1 ⊢
  go_loopg [4] rows.length (fun k i wr => ∃ j : Nat, j + k = rows.length ∧ i = .int .i64 j ∧ RowT wr g (rows.take j ++ List.replicate (rows.length - j) (0, 0)) ∧ Ext w wr)
  case atStart => exact ⟨0, by omega, rfl, by simpa using r1, x1⟩
  case round =>
    obtain ⟨j, hj, rfl, hrow, hx⟩ := hrel
    have HJ := Lib.hid hj
    by_cases hlt : j < rows.length
    · obtain ⟨b, o, rfl, d0, d1⟩ := HC.out j hlt
      replace d0 := hx.cell d0
      replace d1 := hx.cell d1
      have hg : 0 < gk := by omega
      have hst := copied_stepT rows j hlt
      obtain ⟨p, hp⟩ : ∃ p, rows[j].1 = p := ⟨_, rfl⟩
      obtain ⟨q, hq⟩ : ∃ q, rows[j].2 = q := ⟨_, rfl⟩
      rw [show rows[j] = (p, q) by rw [← hp, ← hq]] at hst
      rw [hp] at d0
      rw [hq] at d1
      have HST := Lib.hid hst
      have HX := Lib.hid hx
      have HR := Lib.hid hrow
      have HGS := Lib.hid hgs
      clear hst hp hq hj hx hrow r1 x1 hgs
      go_wp2_with (go_at_call 87; refine (laws_toRow p q _).mono ?_)
      rintro _ w2 ⟨rfl, x2⟩
      have row2 := HR.out.ext x2
      have hlen : j < (rows.take j ++ List.replicate (rows.length - j) ((0 : Int), (0 : Int))).length := by simp; omega
      obtain ⟨⟨k1, k2⟩, k3, k4⟩ := row2.at j hlen
      obtain ⟨z1, hz1⟩ : ∃ z1, (rows.take j ++ List.replicate (rows.length - j) ((0 : Int), (0 : Int)))[j].1 = z1 := ⟨_, rfl⟩
      obtain ⟨z2, hz2⟩ : ∃ z2, (rows.take j ++ List.replicate (rows.length - j) ((0 : Int), (0 : Int)))[j].2 = z2 := ⟨_, rfl⟩
      rw [hz1] at k1
      rw [hz2] at k3
      rw [Nat.zero_add] at k1 k2 k3 k4
      have HR2 := Lib.hid (row2.set j p q)
      have HX2 := Lib.hid (HX.out.trans x2)
      have i1 : (j : Int) < (rows.length : Int) := by omega
      clear row2 hlen hz1 hz2 x2
      go_wp2_with fail
      go_roundg (gk - 1)
      case measure => omega
      case rel => exact ⟨j + 1, by have := HJ.out; omega, by go_num, by rw [← HST.out]; exact HR2.out, ⟨(HX2.out.below.setCell (by rw [HGS.out]; exact Nat.le_refl _) _).setCell (by rw [HGS.out]; exact Nat.le_refl _) _⟩⟩
    · have hjl : j = rows.length := by omega
      subst hjl
      have HR := Lib.hid hrow
      clear hj hrow r1
      go_wp2_with fail
      go_ret
      refine ⟨_, rfl, ?_, hx⟩
      have : RowT wr g rows := by simpa using HR.out
      rw [hgs]
      exact this.own (Nat.le_refl _) this.lt _ (Nat.le_refl _) (by unfold maxLen; omega)

/-- Every cell of n rows may be written. -/
def WrT (w : World) (b o n : Nat) : Prop := ∀ i, i < n * 2 → (∃ x, w.cell? ⟨b, o + i, none⟩ = some (.int .i32 x)) ∧ w.frozen? ⟨b, o + i, none⟩ = false
theorem AtT.wr {w : World} {b o : Nat} {rows : List (Int × Int)} (h : AtT w b o rows) : WrT w b o rows.length := by
  intro i hi
  rcases Nat.mod_two_eq_zero_or_one i with h0 | h1
  · have e : i = i / 2 * 2 := by omega
    obtain ⟨⟨h1, h2⟩, _, _⟩ := h (i / 2) (by omega)
    rw [← e] at h1 h2
    exact ⟨⟨_, h1⟩, h2⟩
  · have e : i = i / 2 * 2 + 1 := by omega
    obtain ⟨_, h1, h2⟩ := h (i / 2) (by omega)
    rw [Nat.add_assoc, ← e] at h1 h2
    exact ⟨⟨_, h1⟩, h2⟩
theorem WrT.set {w : World} {b o n : Nat} (h : WrT w b o n) (j : Nat) (x : Int) (hj : j < n * 2) : WrT (w.setCell ⟨b, o + j, none⟩ (.int .i32 x)) b o n := by
  intro i hi
  obtain ⟨⟨y, h1⟩, h2⟩ := h i hi
  refine ⟨?_, by rw [World.frozen?_setCell]; exact h2⟩
  by_cases e : j = i
  · subst e
    exact ⟨x, World.cell?_setCell_same _ _ _ h1⟩
  · refine ⟨y, ?_⟩
    rw [World.cell?_setCell_other _ _ _ _ (by simp [e]), h1]

/-- A mark's answer. -/
def RetMarkT (lo hi : Nat) (K : Int) (n : Nat) (w : World) (e : Ending) (w' : World) : Prop := e = .returned (.int .i64 (K + 2 * (n : Int))) ∧ Fr lo hi w w'

set_option maxRecDepth 100000 in
theorem laws_markRowS (v : Value) (rows : List (Int × Int)) (K : Int) (k lo hi : Nat) (w : World) (h : OwnT lo hi w v rows) (hK : K = (k : Int)) (hk : k + rows.length * 2 ≤ 2147483647) :
    Calls Tryd.prog 68 #[v, .int .i64 K] w (RetMarkT lo hi K rows.length w) := by
  subst hK
  obtain ⟨a, c, rfl, h1, h2, h3⟩ := h
  have hc2 : c ≤ 9223372036854775807 := by unfold maxLen at h2; omega
  have HW := Lib.hid (show ∃ b o, rows.length = 0 ∨ a = some ⟨b, o, none⟩ ∧ lo ≤ b ∧ b < hi ∧ WrT w b o rows.length by
    rcases h3 with rfl | ⟨b, o, rfl, b1, b2, hc⟩
    · exact ⟨0, 0, .inl rfl⟩
    · exact ⟨b, o, .inr ⟨rfl, b1, b2, hc.wr⟩⟩)
  obtain ⟨n, hn⟩ : ∃ n, rows.length = n := ⟨_, rfl⟩
  rw [hn] at HW h1 hk ⊢
  clear h2 h3 hn
  obtain ⟨b, o, HW⟩ := HW.out
  go_enter Tryd.func68, Tryd.ntmps68
  go_wp2_with fail
  go_loopg [1, 5] n (fun gk q i wr => ∃ j : Nat, j + gk = n ∧ i = .int .i64 j ∧ q = .int .i64 ((k : Int) + 2 * (j : Int)) ∧ (n = 0 ∨ WrT wr b o n) ∧ Fr lo hi w wr)
  case atStart => exact ⟨0, by omega, rfl, by simp, HW.imp id (fun h => h.2.2.2), Fr.refl _ _ _⟩
  case round =>
    obtain ⟨j, hj, rfl, rfl, hr, hx⟩ := hrel
    have HJ := Lib.hid hj
    by_cases hlt : j < n
    · have hg : 0 < gk := by omega
      obtain ⟨rfl, b1, b2, _⟩ := HW.resolve_left (by omega)
      have hr := hr.resolve_left (by omega)
      obtain ⟨⟨y1, g1⟩, g2⟩ := hr (j * 2) (by omega)
      obtain ⟨⟨y2, g3⟩, g4⟩ := hr (j * 2 + 1) (by omega)
      rw [← Nat.add_assoc] at g3 g4
      have HN := Lib.hid ((hr.set (j * 2) ((k : Int) + 2 * (j : Int)) (by omega)).set (j * 2 + 1) ((k : Int) + 2 * (j : Int) + 1) (by omega))
      have HX := Lib.hid hx
      have HB1 := Lib.hid b1
      have HB2 := Lib.hid b2
      have i1 : (j : Int) < (n : Int) := by omega
      clear hj hr HW hx b1 b2
      go_wp2_with fail
      go_roundg (gk - 1)
      case measure => omega
      case rel =>
        refine ⟨j + 1, by have := HJ.out; omega, by go_num, by go_num, .inr HN.out, ?_⟩
        exact (HX.out.trans (Fr.setCell HB1.out HB2.out _)).trans (Fr.setCell HB1.out HB2.out _)
    · have ejl : j = n := by omega
      subst ejl
      clear hj HW hr
      go_wp2_with fail
      go_ret
      exact ⟨rfl, hx⟩

set_option maxRecDepth 100000 in
theorem laws_markTable (v : Value) (rows : List (Int × Int)) (K : Int) (k lo hi : Nat) (w : World) (h : OwnT lo hi w v rows) (hK : K = (k : Int)) (hk : k + rows.length * 2 ≤ 2147483647) :
    Calls Tryd.prog 42 #[.agg #[v], .int .i64 K] w (RetMarkT lo hi K rows.length w) := by
  subst hK
  have h' := fun A => h.ext (Ext.alloc w A)
  obtain ⟨a, c, rfl, _⟩ := h
  go_enter Tryd.func42, Tryd.ntmps42
  go_wp2_with (go_at_call 68; refine (laws_markRowS _ rows _ k lo hi _ (h' _) rfl hk).mono ?_)
  rintro _ w1 ⟨rfl, x1⟩
  go_wp2_with fail
  go_ret
  exact ⟨rfl, ((Ext.alloc w _).fr lo hi).trans x1⟩

set_option maxRecDepth 100000 in
theorem laws_toTable (v : Value) (rows : List (Int × Int)) (w : World) (h : Ts w v rows) (hl : rows.length ≤ 1048576) :
    Calls Tryd.prog 40 #[.agg #[v]] w fun e w' => ∃ v', e = .returned (.agg #[v']) ∧ OwnT w.heap.size w'.heap.size w' v' rows ∧ Ext w w' := by
  obtain ⟨a, c, rfl, _, _, _⟩ := h.raw
  go_enter Tryd.func40, Tryd.ntmps40
  go_wp2_with (go_at_call 66; refine (laws_toRowS _ rows _ ((h.ext ((Ext.alloc _ _).trans ((Ext.alloc _ _).trans (Ext.alloc _ _))))) hl).mono ?_)
  rintro _ w4 ⟨v4, rfl, o4, x4⟩
  have o5 := o4
  obtain ⟨a4, c4, rfl, _⟩ := o4
  obtain ⟨n, hn⟩ : ∃ n, w.heap.size = n := ⟨_, rfl⟩
  obtain ⟨q0, q1, q2, q3⟩ := alloc3_heap w (.cells #[.slice a rows.length c] 50) (.cells #[.slice none 0 0] 28) (.cells #[.slice none 0 0] 28)
  rw [hn] at q0 q1 q2 q3
  have b1 := (x4.block (k := n + 1) (by rw [q3]; omega)).trans q1
  have b2 := (x4.block (k := n + 1 + 1) (by rw [q3]; omega)).trans q2
  have s20 : w4.cell? ⟨n + 1 + 1, 0, none⟩ = some (.slice none 0 0) := by simp [World.cell?, b2]
  have s10 : w4.cell? ⟨n + 1, 0, none⟩ = some (.slice none 0 0) := by simp [World.cell?, b1]
  have z20 : w4.frozen? ⟨n + 1 + 1, 0, none⟩ = false := by simp [World.frozen?, b2]
  have z10 : w4.frozen? ⟨n + 1, 0, none⟩ = false := by simp [World.frozen?, b1]
  have HB1 := Lib.hid b1
  have HQ3 := Lib.hid q3
  have HX4 := Lib.hid (((Ext.alloc w _).trans ((Ext.alloc _ _).trans (Ext.alloc _ _))).trans x4)
  rw [q3] at o5
  have HO := Lib.hid o5
  clear o5 b1 b2 q0 q1 q2 q3 x4
  go_wp2_with fail
  (try simp only [Exit.inBlock, Exit.then])
  have hf := HB1.out
  refine bodyPost_ret (results_cell_row rfl _ _ (n + 1) 28 #[.slice a4 rows.length c4] (0, 0) _ rfl ?_ Tryd.underlying28 rfl (by kernel_rfl)) rfl ?_
  · simp only [World.setCell, Array.getElem?_modify]
    simp [hf]
  · have hfr : Fr (n + 1) (n + 3) w4 ((w4.setCell ⟨n + 1 + 1, 0, none⟩ (.slice a4 rows.length c4)).setCell ⟨n + 1, 0, none⟩ (.slice a4 rows.length c4)) :=
      (Fr.setCell (by simp) (by simp) _).trans (Fr.setCell (by simp) (by simp) _)
    refine ⟨_, rfl, ?_, ?_⟩
    · rw [hn]
      exact (HO.out.fr hfr (.inr (Nat.le_refl _))).mono (by omega) hfr.size
    · refine ⟨?_⟩
      rw [hn]
      have := HX4.out.below
      rw [hn] at this
      exact below_fr this hfr (.inl (by omega)) (by have := HX4.out.size; omega)
end Go.Proofs.YtdlobdbclgcogaaDoor
