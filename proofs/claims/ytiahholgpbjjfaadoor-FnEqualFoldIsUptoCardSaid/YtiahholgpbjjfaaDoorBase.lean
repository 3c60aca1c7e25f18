/- Words on slices of bytes in the model's memory, how they stay when memory grows, and laws of the walk for conversions between strings and slices of bytes. No condition. -/
import Derived.WalkKit
import Derived.WalkLawsBesides
import Derived.WalkSpells
import Derived.Lib.Hide
import Derived.Lib.ConvBytes
import Derived.Lib.BufferRead
import Derived.Deep.LoopGhost
import Derived.Deep.OwnRows
import Derived.Deep.QuietTactic
import Derived.BigQuiet
import Derived.Deep.DeepFit
namespace Go.Proofs.YtiahholgpbjjfaaDoor
open Go.RowKit

/-- What was there is as it was; there may be more. -/
structure Ext (w w' : World) : Prop where
  below : Below w.heap.size w w'

theorem Ext.refl (w : World) : Ext w w := ⟨Below.refl _ _⟩
theorem Ext.size {w w' : World} (h : Ext w w') : w.heap.size ≤ w'.heap.size := h.below.size
theorem Ext.trans {a b c : World} (h : Ext a b) (k : Ext b c) : Ext a c := ⟨h.below.trans (k.below.mono h.size)⟩
theorem Ext.alloc (w : World) (o : Obj) : Ext w (w.alloc o) := ⟨(Below.refl _ _).alloc (Nat.le_refl _) _⟩
theorem Ext.drew (w : World) : Ext w w.drew := ⟨(Below.refl _ _).drew⟩
theorem Ext.drewN (w : World) (n : Nat) : Ext w (w.drewN n) := ⟨⟨rfl, rfl, rfl, Nat.le_refl _, fun _ _ => rfl⟩⟩
theorem Ext.block {w w' : World} (h : Ext w w') {k : Nat} (hk : k < w.heap.size) : w'.heap[k]? = w.heap[k]? := h.below.block k hk
theorem Ext.cell {w w' : World} (h : Ext w w') {p : Addr} {v : Value} (hc : w.cell? p = some v) : w'.cell? p = some v :=
  (h.below.cell (World.block_lt_of_cell? w p hc)).trans hc

/-- Only blocks from 'lo' up to 'hi' may have changed; there may be more. -/
structure Fr (lo hi : Nat) (w w' : World) : Prop where
  os : w'.os = w.os
  tape : w'.tape = w.tape
  output : w'.output = w.output
  size : w.heap.size ≤ w'.heap.size
  block : ∀ k, k < w.heap.size → (k < lo ∨ hi ≤ k) → w'.heap[k]? = w.heap[k]?

theorem Fr.refl (lo hi : Nat) (w : World) : Fr lo hi w w := ⟨rfl, rfl, rfl, Nat.le_refl _, fun _ _ _ => rfl⟩
theorem Fr.trans {lo hi : Nat} {a b c : World} (h : Fr lo hi a b) (k : Fr lo hi b c) : Fr lo hi a c :=
  ⟨k.os.trans h.os, k.tape.trans h.tape, k.output.trans h.output, Nat.le_trans h.size k.size, fun i hi' ho => (k.block i (Nat.lt_of_lt_of_le hi' h.size) ho).trans (h.block i hi' ho)⟩
theorem Fr.mono {lo hi lo' hi' : Nat} {a b : World} (h : Fr lo hi a b) (h1 : lo' ≤ lo) (h2 : hi ≤ hi') : Fr lo' hi' a b :=
  ⟨h.os, h.tape, h.output, h.size, fun k hk ho => h.block k hk (by omega)⟩
theorem Ext.fr {w w' : World} (h : Ext w w') (lo hi : Nat) : Fr lo hi w w' :=
  ⟨h.below.os, h.below.tape, h.below.output, h.size, fun _ hk _ => h.block hk⟩
theorem Fr.setCell {lo hi : Nat} {w : World} {p : Addr} (h1 : lo ≤ p.block) (h2 : p.block < hi) (u : Value) : Fr lo hi w (w.setCell p u) :=
  ⟨rfl, rfl, rfl, by simp [World.setCell], fun k _ ho => Below.heap_setCell _ _ _ _ (by omega)⟩
theorem Fr.drew {lo hi : Nat} {a w : World} (h : Fr lo hi a w) : Fr lo hi a w.drew := ⟨h.os, h.tape, h.output, h.size, h.block⟩
/-- What is done to blocks from B on leaves what lies below. -/
theorem below_fr {B lo hi : Nat} {W w w' : World} (h : Below B W w) (k : Fr lo hi w w') (h1 : B ≤ lo ∨ hi ≤ lo) (h2 : B ≤ w.heap.size) : Below B W w' :=
  h.trans ⟨k.os, k.tape, k.output, k.size, fun i hi' => k.block i (by omega) (by omega)⟩

/-- The slice value v holds the bytes l. -/
def Bs (w : World) (v : Value) (l : List UInt8) : Prop :=
  ∃ a c, v = .slice a l.length c ∧ l.length ≤ c ∧ c ≤ maxLen ∧
    (l = [] ∨ ∃ b o, a = some ⟨b, o, none⟩ ∧ ∀ i (h : i < l.length), w.cell? ⟨b, o + i, none⟩ = some (.int .u8 (l[i].toNat : Int)))

theorem Bs.ext {w w' : World} {v : Value} {l : List UInt8} (h : Bs w v l) (x : Ext w w') : Bs w' v l := by
  obtain ⟨a, c, hv, h1, h2, h3⟩ := h
  refine ⟨a, c, hv, h1, h2, ?_⟩
  rcases h3 with h3 | ⟨b, o, ha, hc⟩
  · exact .inl h3
  · exact .inr ⟨b, o, ha, fun i hi => x.cell (hc i hi)⟩

theorem Bs.nil (w : World) : Bs w (.slice none 0 0) [] := ⟨none, 0, rfl, Nat.le_refl _, Nat.zero_le _, .inl rfl⟩

/-- The slice value v holds the bytes l, in a block of its own from 'lo' up to 'hi', which may be written. -/
def Own (lo hi : Nat) (w : World) (v : Value) (l : List UInt8) : Prop :=
  ∃ a c, v = .slice a l.length c ∧ l.length ≤ c ∧ c ≤ maxLen ∧
    (l = [] ∨ ∃ b o, a = some ⟨b, o, none⟩ ∧ lo ≤ b ∧ b < hi ∧ ∀ i (h : i < l.length), w.cell? ⟨b, o + i, none⟩ = some (.int .u8 (l[i].toNat : Int)) ∧ w.frozen? ⟨b, o + i, none⟩ = false)

theorem Own.bs {lo hi : Nat} {w : World} {v : Value} {l : List UInt8} (h : Own lo hi w v l) : Bs w v l := by
  obtain ⟨a, c, hv, h1, h2, h3⟩ := h
  refine ⟨a, c, hv, h1, h2, ?_⟩
  rcases h3 with h3 | ⟨b, o, ha, _, _, hc⟩
  · exact .inl h3
  · exact .inr ⟨b, o, ha, fun i hi => (hc i hi).1⟩

theorem Own.mono {lo hi lo' hi' : Nat} {w : World} {v : Value} {l : List UInt8} (h : Own lo hi w v l) (h1 : lo' ≤ lo) (h2 : hi ≤ hi') : Own lo' hi' w v l := by
  obtain ⟨a, c, hv, k1, k2, h3⟩ := h
  refine ⟨a, c, hv, k1, k2, ?_⟩
  rcases h3 with h3 | ⟨b, o, ha, b1, b2, hc⟩
  · exact .inl h3
  · exact .inr ⟨b, o, ha, by omega, by omega, hc⟩

theorem Own.fr {lo hi lo' hi' : Nat} {w w' : World} {v : Value} {l : List UInt8} (h : Own lo hi w v l) (x : Fr lo' hi' w w') (hd : hi ≤ lo' ∨ hi' ≤ lo) : Own lo hi w' v l := by
  obtain ⟨a, c, hv, k1, k2, h3⟩ := h
  refine ⟨a, c, hv, k1, k2, ?_⟩
  rcases h3 with h3 | ⟨b, o, ha, b1, b2, hc⟩
  · exact .inl h3
  · refine .inr ⟨b, o, ha, b1, b2, fun i hi => ?_⟩
    have hb := x.block b (World.block_lt_of_cell? w _ (hc i hi).1) (by omega)
    exact ⟨(World.cell?_of_block (a := ⟨b, o + i, none⟩) hb).trans (hc i hi).1, (World.frozen?_of_block (a := ⟨b, o + i, none⟩) hb).trans (hc i hi).2⟩

theorem Own.ext {lo hi : Nat} {w w' : World} {v : Value} {l : List UInt8} (h : Own lo hi w v l) (x : Ext w w') : Own lo hi w' v l :=
  (h.fr (x.fr hi hi) (.inl (Nat.le_refl _)))


theorem grownCap_ge (w : World) (n old : Nat) (e : TypeId) : n ≤ grownCap w n old e := by
  show n ≤ n + _
  omega
theorem grownCap_le (w : World) (n old : Nat) (e : TypeId) (h : n ≤ maxLen) : grownCap w n old e ≤ maxLen := by
  have := Nat.mod_lt (w.tape w.drawn (.appendCap n old e)) (show 0 < 2 ^ 63 - n by unfold maxLen at h; omega)
  show n + w.tape w.drawn (.appendCap n old e) % (2 ^ 63 - n) ≤ _
  unfold maxLen at *
  omega

theorem bytesWorld_ext (w : World) (e : TypeId) (s : ByteArray) : Ext w (Lib.bytesWorld w e s) :=
  ⟨⟨rfl, rfl, rfl, by rw [Lib.bytesWorld_size]; omega, fun k hk => Lib.bytesWorld_at_old w e s k hk⟩⟩

theorem bytesWorld_own (w : World) (e : TypeId) (s : ByteArray) (hb : s.size ≤ maxLen) :
    Own w.heap.size (Lib.bytesWorld w e s).heap.size (Lib.bytesWorld w e s) (.slice (some ⟨w.heap.size, 0, none⟩) s.size (grownCap w s.size 0 e)) s.data.toList := by
  refine ⟨_, _, rfl, grownCap_ge _ _ _ _, grownCap_le _ _ _ _ hb, .inr ⟨_, _, rfl, Nat.le_refl _, by rw [Lib.bytesWorld_size]; omega, fun i hi => ⟨?_, ?_⟩⟩⟩
  · have hi' : i < s.size := hi
    rw [Nat.zero_add, Lib.bytesWorld_cell w e s i hi']
    simp [List.getD, List.getElem?_eq_getElem hi]
  · unfold World.frozen?
    rw [Lib.bytesWorld_at_new]
    have hi' : i < s.size := hi
    simp [Lib.bytesCells]
    omega

/-- '[]byte(s)': a new slice of the bytes of s. -/
theorem wpList_toBytes {P : Program} {ops : Array Oper} {rest : List Oper} {o : Oper} {a : Act} {Q : Exit → Act → World → Prop} {w : World}
    (hw : Region.wanted o (yielded ops a.tmps) = true) (src dst : TypeId) (x : Operand) (hop : o.op = Op.convert src dst x)
    (e : TypeId) (hs : P.underlying src = some .string) (hd : P.underlying dst = some (.slice e)) (he : P.underlying e = some (.int .u8))
    (s : ByteArray) (hx : a.eval x = .string s) (hb : s.size ≤ maxLen)
    (hK : ∀ v w', Own w.heap.size w'.heap.size w' v s.data.toList → Ext w w' → wpList P ops Q rest (a.put o.dst v) w') :
    wpList P ops Q (o :: rest) a w := by
  refine wpList_step fun K hK' => ?_
  rw [if_pos hw]
  have hrun := Lib.run_convert_string_bytes (P := P) w src dst e s hs hd he
  unfold Oper.wp
  simp [execOp, hop, hx, hrun, Result.andThen]
  exact hK' _ _ (hK _ _ (bytesWorld_own w e s hb) (bytesWorld_ext w e s))

theorem run_toString {P : Program} {w : World} (src dst e : TypeId) (hs : P.underlying src = some (.slice e)) (he : P.underlying e = some (.int .u8)) (hd : P.underlying dst = some .string)
    {v : Value} {l : List UInt8} (h : Bs w v l) : (convert src dst v).run P w = .ok (.string ⟨l.toArray⟩) w := by
  obtain ⟨a, c, rfl, h1, h2, h3⟩ := h
  rcases h3 with rfl | ⟨b, o, rfl, hc⟩
  · cases a with
    | none => exact Lib.run_convert_nil_bytes w src dst e c hs he hd
    | some a => exact run_convert_bytes_back w src dst e a c [] hs he hd (fun j hj => by simp at hj)
  · exact run_convert_bytes_back w src dst e _ c l hs he hd (fun j hj => by rw [Addr.add_lit]; exact hc j hj)

/-- 'string(b)'. -/
theorem wpList_toString {P : Program} {ops : Array Oper} {rest : List Oper} {o : Oper} {a : Act} {Q : Exit → Act → World → Prop} {w : World}
    (hw : Region.wanted o (yielded ops a.tmps) = true) (src dst : TypeId) (x : Operand) (hop : o.op = Op.convert src dst x)
    (e : TypeId) (hs : P.underlying src = some (.slice e)) (he : P.underlying e = some (.int .u8)) (hd : P.underlying dst = some .string)
    (l : List UInt8) (v : Value) (hx : a.eval x = v) (hb : Bs w v l)
    (hK : wpList P ops Q rest (a.put o.dst (.string ⟨l.toArray⟩)) w) :
    wpList P ops Q (o :: rest) a w := by
  refine wpList_step fun K hK' => ?_
  rw [if_pos hw]
  have hrun := run_toString (P := P) (w := w) src dst e hs he hd hb
  unfold Oper.wp
  simp [execOp, hop, hx, hrun, Result.andThen]
  exact hK' _ _ hK

theorem run_loadBytes {P : Program} (w : World) : ∀ (l : List UInt8) (b o : Nat) (acc : ByteArray), (∀ i (h : i < l.length), w.cell? ⟨b, o + i, none⟩ = some (.int .u8 (l[i].toNat : Int))) →
    (Extern.Bytes.loadBytes ⟨b, o, none⟩ l.length acc).run P w = .ok ⟨acc.data ++ l.toArray⟩ w
  | [], b, o, acc, _ => by simp [Extern.Bytes.loadBytes]
  | x :: l, b, o, acc, h => by
    have h0 : w.cell? ⟨b, o, none⟩ = some (.int .u8 (x.toNat : Int)) := h 0 (Nat.succ_pos _)
    have ih := run_loadBytes (P := P) w l b (o + 1) (acc.push x) (fun j hj => by
      have := h (j + 1) (by simpa using hj)
      simpa [Nat.add_assoc, Nat.add_comm 1 j] using this)
    simp only [List.length_cons, Extern.Bytes.loadBytes, Sem.run_bind, run_load, h0, Result.andThen, Addr.add_lit]
    have e : ((x.toNat : Int)).toNat.toUInt8 = x := by simp
    rw [e, ih]
    congr 1
    apply ByteArray.ext
    simp [ByteArray.push]

theorem run_bytesOf {P : Program} {w : World} {v : Value} {l : List UInt8} (h : Bs w v l) : (Extern.Bytes.bytesOf v).run P w = .ok ⟨l.toArray⟩ w := by
  obtain ⟨a, c, rfl, h1, h2, h3⟩ := h
  have e0 : ByteArray.empty.data = #[] := rfl
  rcases h3 with rfl | ⟨b, o, rfl, hc⟩
  · cases a with
    | none => rfl
    | some a => rfl
  · have := run_loadBytes (P := P) w l b o .empty hc
    rw [e0] at this
    simpa [Extern.Bytes.bytesOf] using this

/-- A call of a function without a body, which the model knows. -/
theorem wpList_extern {P : Program} {ops : Array Oper} {rest : List Oper} {o : Oper} {a : Act} {Q : Exit → Act → World → Prop} {w : World}
    (hw : Region.wanted o (yielded ops a.tmps) = true) (F : FuncId) (args : Array Operand) (tys : Array TypeId) (hop : o.op = Op.call { callee := .value (.func F), args := args, argTypes := tys })
    {fn : Func} {e : Array Value → Sem Value} (hf : P.funcs[F]? = some fn) (hname : (fn.name == "runtime.NumGoroutine") = false)
    (hb : fn.body.isNone = true) (hn : Extern.findNext fn = none) (he : Extern.find fn = some e) (vs : Array Value) (hv : args.map a.eval = vs) (v : Value) (w' : World)
    (hrun : (e vs).run P w = .ok v w')
    (hK : wpList P ops Q rest (a.put o.dst v) w') : wpList P ops Q (o :: rest) a w := by
  refine wpList_step fun K hK' => ?_
  rw [if_pos hw]
  have h1 := run_callFunc_extern hf hname hb hn he vs w
  rw [hrun] at h1
  unfold Oper.wp
  simp [execOp, hop, resolve, invoke, Deferred.ofValue, Act.eval, hv, h1, Result.andThen]
  exact hK' _ _ hK

theorem wpList_extern2 {P : Program} {ops : Array Oper} {rest : List Oper} {o : Oper} {a : Act} {Q : Exit → Act → World → Prop} {w : World}
    (hw : Region.wanted o (yielded ops a.tmps) = true) (F : FuncId) (x y : Operand) (tys : Array TypeId) (hop : o.op = Op.call { callee := .value (.func F), args := #[x, y], argTypes := tys })
    {fn : Func} {e : Array Value → Sem Value} (hf : P.funcs[F]? = some fn) (hname : (fn.name == "runtime.NumGoroutine") = false)
    (hb : fn.body.isNone = true) (hn : Extern.findNext fn = none) (he : Extern.find fn = some e) (v1 v2 : Value) (h1 : a.eval x = v1) (h2 : a.eval y = v2) (v : Value) (w' : World)
    (hrun : (e #[v1, v2]).run P w = .ok v w')
    (hK : wpList P ops Q rest (a.put o.dst v) w') : wpList P ops Q (o :: rest) a w :=
  wpList_extern hw F #[x, y] tys hop hf hname hb hn he #[v1, v2] (by simp [h1, h2]) v w' hrun hK

/-- The cells of a list of bytes. -/
def bcells (l : List UInt8) : List Value := l.map fun b => Value.int .u8 (b.toNat : Int)

theorem bcells_length (l : List UInt8) : (bcells l).length = l.length := by simp [bcells]

/-- Block g is a row of just these bytes, and may be written. -/
def RowB (w : World) (g : Nat) (l : List UInt8) : Prop := ∃ e, w.heap[g]? = some (.cells (bcells l).toArray e (0, 0))

theorem RowB.cell {w : World} {g : Nat} {l : List UInt8} (h : RowB w g l) (i : Nat) (hi : i < l.length) : w.cell? ⟨g, i, none⟩ = some (.int .u8 (l[i].toNat : Int)) := by
  obtain ⟨e, h⟩ := h
  simp [World.cell?, h, bcells, hi]

theorem RowB.frozen {w : World} {g : Nat} {l : List UInt8} (h : RowB w g l) (i : Nat) : w.frozen? ⟨g, i, none⟩ = false := by
  obtain ⟨e, h⟩ := h
  simp [World.frozen?, h]

theorem RowB.lt {w : World} {g : Nat} {l : List UInt8} (h : RowB w g l) : g < w.heap.size := by
  obtain ⟨e, h⟩ := h
  rcases Nat.lt_or_ge g w.heap.size with h' | h'
  · exact h'
  · simp [Array.getElem?_eq_none h'] at h

theorem RowB.ext {w w' : World} {g : Nat} {l : List UInt8} (h : RowB w g l) (x : Ext w w') : RowB w' g l := by
  have hl := h.lt
  obtain ⟨e, h⟩ := h
  exact ⟨e, (x.block hl).trans h⟩

theorem RowB.fr {lo hi : Nat} {w w' : World} {g : Nat} {l : List UInt8} (h : RowB w g l) (x : Fr lo hi w w') (hd : g < lo ∨ hi ≤ g) : RowB w' g l := by
  have hl := h.lt
  obtain ⟨e, h⟩ := h
  exact ⟨e, (x.block g hl hd).trans h⟩

theorem RowB.set {w : World} {g : Nat} {l : List UInt8} (h : RowB w g l) (i : Nat) (b : UInt8) : RowB (w.setCell ⟨g, i, none⟩ (.int .u8 (b.toNat : Int))) g (l.set i b) := by
  obtain ⟨e, h⟩ := h
  refine ⟨e, ?_⟩
  simp only [World.setCell, Array.getElem?_modify, if_true, h, Option.map_some]
  simp [bcells, List.map_set]

theorem RowB.own {w : World} {g : Nat} {l : List UInt8} {lo hi : Nat} (h : RowB w g l) (h1 : lo ≤ g) (h2 : g < hi) (c : Nat) (hc : l.length ≤ c) (hm : c ≤ maxLen) : Own lo hi w (.slice (some ⟨g, 0, none⟩) l.length c) l :=
  ⟨_, c, rfl, hc, hm, .inr ⟨g, 0, rfl, h1, h2, fun i hi => by rw [Nat.zero_add]; exact ⟨h.cell i hi, h.frozen i⟩⟩⟩

theorem madeCells_bytes (n : Nat) : madeCells #[.int .u8 0] n = (bcells (List.replicate n 0)).toArray := by
  apply Array.ext
  · simp [madeCells, bcells]
  · intro i h1 h2
    simp [madeCells, bcells, Nat.mod_one]

/-- 'make([]byte, n)'. -/
theorem wpList_mkBytes {P : Program} {ops : Array Oper} {rest : List Oper} {o : Oper} {a : Act} {Q : Exit → Act → World → Prop} {w : World}
    (hw : Region.wanted o (yielded ops a.tmps) = true) (t : TypeId) (x y : Operand) (hop : o.op = Op.makeSlice t x y)
    (e : TypeId) (ht : P.underlying t = some (.slice e)) (hinfo : (P.info? e).map (fun i => (i.zero, i.size, i.bytes)) = some (some (.int .u8 0), 1, 1))
    (n : Nat) (kl kc : IntKind) (hx : a.eval x = .int kl (n : Int)) (hy : a.eval y = .int kc (n : Int)) (hn : n ≤ 281474976710656)
    (hK : ∀ w', RowB w' w.heap.size (List.replicate n 0) → Ext w w' → w'.heap.size = w.heap.size + 1 → wpList P ops Q rest (a.put o.dst (.slice (some ⟨w.heap.size, 0, none⟩) n n)) w') :
    wpList P ops Q (o :: rest) a w := by
  refine wpList_step fun K hK' => ?_
  rw [if_pos hw]
  have hrun := run_make_row' (P := P) t e (.int .u8 0) 1 ht hinfo rfl kl kc n (by omega) (by omega) w
  unfold Oper.wp
  simp [execOp, hop, hx, hy, hrun, Result.andThen]
  refine hK' _ _ (hK _ ⟨e, ?_⟩ (Ext.alloc _ _) (by simp))
  rw [heap_alloc_new, madeCells_bytes]

/-- A call's answer: a new slice of the bytes l. -/
def RetOwn (w : World) (l : List UInt8) (e : Ending) (w' : World) : Prop := ∃ v, e = .returned v ∧ Own w.heap.size w'.heap.size w' v l ∧ Ext w w'

theorem elem_of {P : Program} {t e : TypeId} (h : P.underlying t = some (.slice e)) : P.underlying t = some (.slice (P.elem t)) := by
  have : P.elem t = e := by simp [Program.elem, h]
  rw [this, h]

theorem elem_eq {P : Program} {t e : TypeId} (h : P.underlying t = some (.slice e)) : P.elem t = e := by simp [Program.elem, h]

theorem sizeOf_one {P : Program} {e : TypeId} {z : Value} {b : Nat} (hinfo : (P.info? e).map (fun i => (i.zero, i.size, i.bytes)) = some (some z, 1, b)) (w : World) : (sizeOf e).run P w = .ok 1 w := by
  obtain ⟨i, hi, hzz⟩ := Option.map_eq_some_iff.1 hinfo
  simp only [Prod.mk.injEq] at hzz
  simp [sizeOf, typeInfo, hi, hzz.2.1]

/-- A part of the bytes. -/
def part (L : List UInt8) (l h : Nat) : List UInt8 := (L.take h).drop l

theorem part_length (L : List UInt8) (l h : Nat) (hh : h ≤ L.length) : (part L l h).length = h - l := by
  simp [part]; omega

theorem part_get (L : List UInt8) (l h i : Nat) (hi : i < (part L l h).length) (hi' : l + i < L.length) : (part L l h)[i] = L[l + i] := by
  simp [part]

theorem Bs.sliced {w : World} {a : Option Addr} {n c : Nat} {L : List UInt8} (h : Bs w (.slice a n c) L) {l hh m : Nat} (h1 : l ≤ hh) (h2 : hh ≤ L.length) (h3 : hh ≤ m) (h4 : m ≤ c) :
    Bs w (sliced a l hh m 1) (part L l hh) := by
  obtain ⟨a', c', hv, k1, k2, k3⟩ := h
  simp only [Value.slice.injEq] at hv
  obtain ⟨rfl, rfl, rfl⟩ := hv
  refine ⟨_, m - l, by rw [Go.sliced, part_length _ _ _ h2], by rw [part_length _ _ _ h2]; omega, by omega, ?_⟩
  rcases k3 with rfl | ⟨b, o, rfl, hc⟩
  · left; simp [part]
  · by_cases he : l = hh
    · subst he
      left
      exact List.eq_nil_of_length_eq_zero (by rw [part_length _ _ _ h2]; omega)
    · right
      refine ⟨b, o + l, ?_, fun i hi => ?_⟩
      · rw [if_neg (by omega)]
        simp [Addr.add_lit]
      · have hi' : i < hh - l := by rw [part_length _ _ _ h2] at hi; exact hi
        rw [part_get L l hh i hi (by omega), Nat.add_assoc]
        exact hc (l + i) (by omega)

theorem Own.sliced {lo hi : Nat} {w : World} {a : Option Addr} {n c : Nat} {L : List UInt8} (h : Own lo hi w (.slice a n c) L) {l hh m : Nat} (h1 : l ≤ hh) (h2 : hh ≤ L.length) (h3 : hh ≤ m) (h4 : m ≤ c) :
    Own lo hi w (sliced a l hh m 1) (part L l hh) := by
  obtain ⟨a', c', hv, k1, k2, k3⟩ := h
  simp only [Value.slice.injEq] at hv
  obtain ⟨rfl, rfl, rfl⟩ := hv
  refine ⟨_, m - l, by rw [Go.sliced, part_length _ _ _ h2], by rw [part_length _ _ _ h2]; omega, by omega, ?_⟩
  rcases k3 with rfl | ⟨b, o, rfl, b1, b2, hc⟩
  · left; simp [part]
  · by_cases he : l = hh
    · subst he
      left
      exact List.eq_nil_of_length_eq_zero (by rw [part_length _ _ _ h2]; omega)
    · right
      refine ⟨b, o + l, ?_, b1, b2, fun i hi => ?_⟩
      · rw [if_neg (by omega)]
        simp [Addr.add_lit]
      · have hi' : i < hh - l := by rw [part_length _ _ _ h2] at hi; exact hi
        rw [part_get L l hh i hi (by omega), Nat.add_assoc]
        exact hc (l + i) (by omega)

theorem Bs.shape {w : World} {v : Value} {L : List UInt8} (h : Bs w v L) : ∃ a c, v = .slice a L.length c ∧ L.length ≤ c ∧ c ≤ maxLen := by
  obtain ⟨a, c, hv, h1, h2, _⟩ := h; exact ⟨a, c, hv, h1, h2⟩

/-- 's[l:]', 's[:h]', 's[l:h]', 's[l:h:m]' of a slice of bytes. -/
theorem run_sub_l {P : Program} {w : World} {t e : TypeId} (ht : P.underlying t = some (.slice e)) {z : Value} {by_ : Nat} (hinfo : (P.info? e).map (fun i => (i.zero, i.size, i.bytes)) = some (some z, 1, by_))
    (a : Option Addr) (n c : Nat) (k : IntKind) (l : Nat) (h : l ≤ n) : (Instr.sliceAt t (.slice a n c) (some (.int k (l : Int))) none none).run P w = .ok (sliced a l n c 1) w := by
  rw [run_sliceAt_slice w t _ _ _ _ (elem_of ht), run_slice_l w t a n c (elem_of ht) k _ (by omega) (by omega), elem_eq ht, sizeOf_one hinfo]
  simp [Result.andThen]
theorem run_sub_h {P : Program} {w : World} {t e : TypeId} (ht : P.underlying t = some (.slice e)) {z : Value} {by_ : Nat} (hinfo : (P.info? e).map (fun i => (i.zero, i.size, i.bytes)) = some (some z, 1, by_))
    (a : Option Addr) (n c : Nat) (k : IntKind) (h : Nat) (hh : h ≤ c) : (Instr.sliceAt t (.slice a n c) none (some (.int k (h : Int))) none).run P w = .ok (sliced a 0 h c 1) w := by
  rw [run_sliceAt_slice w t _ _ _ _ (elem_of ht), run_slice_h w t a n c (elem_of ht) k _ (by omega) (by omega), elem_eq ht, sizeOf_one hinfo]
  simp [Result.andThen]
theorem run_sub_lh {P : Program} {w : World} {t e : TypeId} (ht : P.underlying t = some (.slice e)) {z : Value} {by_ : Nat} (hinfo : (P.info? e).map (fun i => (i.zero, i.size, i.bytes)) = some (some z, 1, by_))
    (a : Option Addr) (n c : Nat) (k k' : IntKind) (l h : Nat) (h1 : l ≤ h) (hh : h ≤ c) : (Instr.sliceAt t (.slice a n c) (some (.int k (l : Int))) (some (.int k' (h : Int))) none).run P w = .ok (sliced a l h c 1) w := by
  rw [run_sliceAt_slice w t _ _ _ _ (elem_of ht), run_slice_lh w t a n c (elem_of ht) k k' _ _ (by omega) (by omega) (by omega), elem_eq ht, sizeOf_one hinfo]
  simp [Result.andThen]
theorem run_sub_lhm {P : Program} {w : World} {t e : TypeId} (ht : P.underlying t = some (.slice e)) {z : Value} {by_ : Nat} (hinfo : (P.info? e).map (fun i => (i.zero, i.size, i.bytes)) = some (some z, 1, by_))
    (a : Option Addr) (n c : Nat) (k k' k'' : IntKind) (l h m : Nat) (h1 : l ≤ h) (hh : h ≤ m) (hm : m ≤ c) : (Instr.sliceAt t (.slice a n c) (some (.int k (l : Int))) (some (.int k' (h : Int))) (some (.int k'' (m : Int)))).run P w = .ok (sliced a l h m 1) w := by
  rw [run_sliceAt_slice w t _ _ _ _ (elem_of ht), run_slice_lhm w t a n c (elem_of ht) k k' k'' _ _ _ (by omega) (by omega) (by omega) (by omega), elem_eq ht, sizeOf_one hinfo]
  simp [Result.andThen]

theorem wpList_subL {P : Program} {ops : Array Oper} {rest : List Oper} {o : Oper} {a : Act} {Q : Exit → Act → World → Prop} {w : World}
    (hw : Region.wanted o (yielded ops a.tmps) = true) (t : TypeId) (x y : Operand) (hop : o.op = Op.slice t x (some y) none none)
    (e : TypeId) (ht : P.underlying t = some (.slice e)) {z : Value} {by_ : Nat} (hinfo : (P.info? e).map (fun i => (i.zero, i.size, i.bytes)) = some (some z, 1, by_))
    (v : Value) (L : List UInt8) (hx : a.eval x = v) (hb : Bs w v L) (k : IntKind) (I : Int) (hy : a.eval y = .int k I) (l : Nat) (hI : I = (l : Int)) (hl : l ≤ L.length)
    (hK : ∀ v', Bs w v' (L.drop l) → (∀ lo hi, Own lo hi w v L → Own lo hi w v' (L.drop l)) → wpList P ops Q rest (a.put o.dst v') w) : wpList P ops Q (o :: rest) a w := by
  refine wpList_step fun K hK' => ?_
  rw [if_pos hw]
  obtain ⟨ad, c, rfl, h1, h2⟩ := hb.shape
  subst hI
  have hrun := run_sub_l (P := P) (w := w) ht hinfo ad L.length c k l hl
  have e1 : part L l L.length = L.drop l := by simp [part]
  unfold Oper.wp
  simp [execOp, hop, hx, hy, hrun, Result.andThen]
  exact hK' _ _ (hK _ (e1 ▸ hb.sliced hl (Nat.le_refl _) h1 (Nat.le_refl _)) (fun lo hi ho => e1 ▸ ho.sliced hl (Nat.le_refl _) h1 (Nat.le_refl _)))

theorem wpList_subH {P : Program} {ops : Array Oper} {rest : List Oper} {o : Oper} {a : Act} {Q : Exit → Act → World → Prop} {w : World}
    (hw : Region.wanted o (yielded ops a.tmps) = true) (t : TypeId) (x y : Operand) (hop : o.op = Op.slice t x none (some y) none)
    (e : TypeId) (ht : P.underlying t = some (.slice e)) {z : Value} {by_ : Nat} (hinfo : (P.info? e).map (fun i => (i.zero, i.size, i.bytes)) = some (some z, 1, by_))
    (v : Value) (L : List UInt8) (hx : a.eval x = v) (hb : Bs w v L) (k : IntKind) (I : Int) (hy : a.eval y = .int k I) (h : Nat) (hI : I = (h : Int)) (hh : h ≤ L.length)
    (hK : ∀ v', Bs w v' (L.take h) → (∀ lo hi, Own lo hi w v L → Own lo hi w v' (L.take h)) → wpList P ops Q rest (a.put o.dst v') w) : wpList P ops Q (o :: rest) a w := by
  refine wpList_step fun K hK' => ?_
  rw [if_pos hw]
  obtain ⟨ad, c, rfl, h1, h2⟩ := hb.shape
  subst hI
  have hrun := run_sub_h (P := P) (w := w) ht hinfo ad L.length c k h (by omega)
  have e1 : part L 0 h = L.take h := by simp [part]
  unfold Oper.wp
  simp [execOp, hop, hx, hy, hrun, Result.andThen]
  exact hK' _ _ (hK _ (e1 ▸ hb.sliced (Nat.zero_le _) hh (by omega) (Nat.le_refl _)) (fun lo hi ho => e1 ▸ ho.sliced (Nat.zero_le _) hh (by omega) (Nat.le_refl _)))

theorem wpList_subLH {P : Program} {ops : Array Oper} {rest : List Oper} {o : Oper} {a : Act} {Q : Exit → Act → World → Prop} {w : World}
    (hw : Region.wanted o (yielded ops a.tmps) = true) (t : TypeId) (x y y' : Operand) (hop : o.op = Op.slice t x (some y) (some y') none)
    (e : TypeId) (ht : P.underlying t = some (.slice e)) {z : Value} {by_ : Nat} (hinfo : (P.info? e).map (fun i => (i.zero, i.size, i.bytes)) = some (some z, 1, by_))
    (v : Value) (L : List UInt8) (hx : a.eval x = v) (hb : Bs w v L) (k k' : IntKind) (I I' : Int) (hy : a.eval y = .int k I) (hy' : a.eval y' = .int k' I') (l h : Nat) (hI : I = (l : Int)) (hI' : I' = (h : Int)) (hl : l ≤ h) (hh : h ≤ L.length)
    (hK : ∀ v', Bs w v' (part L l h) → (∀ lo hi, Own lo hi w v L → Own lo hi w v' (part L l h)) → wpList P ops Q rest (a.put o.dst v') w) : wpList P ops Q (o :: rest) a w := by
  refine wpList_step fun K hK' => ?_
  rw [if_pos hw]
  obtain ⟨ad, c, rfl, h1, h2⟩ := hb.shape
  subst hI hI'
  have hrun := run_sub_lh (P := P) (w := w) ht hinfo ad L.length c k k' l h hl (by omega)
  unfold Oper.wp
  simp [execOp, hop, hx, hy, hy', hrun, Result.andThen]
  exact hK' _ _ (hK _ (hb.sliced hl hh (by omega) (Nat.le_refl _)) (fun lo hi ho => ho.sliced hl hh (by omega) (Nat.le_refl _)))

theorem wpList_subLHM {P : Program} {ops : Array Oper} {rest : List Oper} {o : Oper} {a : Act} {Q : Exit → Act → World → Prop} {w : World}
    (hw : Region.wanted o (yielded ops a.tmps) = true) (t : TypeId) (x y y' y'' : Operand) (hop : o.op = Op.slice t x (some y) (some y') (some y''))
    (e : TypeId) (ht : P.underlying t = some (.slice e)) {z : Value} {by_ : Nat} (hinfo : (P.info? e).map (fun i => (i.zero, i.size, i.bytes)) = some (some z, 1, by_))
    (v : Value) (L : List UInt8) (hx : a.eval x = v) (hb : Bs w v L) (k k' k'' : IntKind) (I I' : Int) (hy : a.eval y = .int k I) (hy' : a.eval y' = .int k' I') (hy'' : a.eval y'' = .int k'' I') (l h : Nat) (hI : I = (l : Int)) (hI' : I' = (h : Int)) (hl : l ≤ h) (hh : h ≤ L.length)
    (hK : ∀ v', Bs w v' (part L l h) → (∀ lo hi, Own lo hi w v L → Own lo hi w v' (part L l h)) → wpList P ops Q rest (a.put o.dst v') w) : wpList P ops Q (o :: rest) a w := by
  refine wpList_step fun K hK' => ?_
  rw [if_pos hw]
  obtain ⟨ad, c, rfl, h1, h2⟩ := hb.shape
  subst hI hI'
  have hrun := run_sub_lhm (P := P) (w := w) ht hinfo ad L.length c k k' k'' l h h hl (Nat.le_refl _) (by omega)
  unfold Oper.wp
  simp [execOp, hop, hx, hy, hy', hy'', hrun, Result.andThen]
  exact hK' _ _ (hK _ (hb.sliced hl hh (Nat.le_refl _) (by omega)) (fun lo hi ho => ho.sliced hl hh (Nat.le_refl _) (by omega)))

/-- A slice of bytes that is the call's own and grows by append: nil, or at the head of a row from block B on. -/
def Buf (B : Nat) (e : TypeId) (w : World) (v : Value) (l : List UInt8) : Prop := w.ownsRow B e 1 v l.length (bcells l)

theorem bcells_one (l : List UInt8) : ∀ u ∈ bcells l, u.oneCell' = true := by
  intro u hu
  obtain ⟨_, _, rfl⟩ := List.mem_map.1 hu
  rfl

theorem bcells_append (l m : List UInt8) : bcells (l ++ m) = bcells l ++ bcells m := by simp [bcells]

theorem Buf.own {B : Nat} {e : TypeId} {w : World} {v : Value} {l : List UInt8} (h : Buf B e w v l) : Own B w.heap.size w v l := by
  obtain ⟨h1, h2⟩ := h
  rcases h2 with ⟨rfl, h0⟩ | ⟨g, cap, cur, rfl, hg, hh, hn, hc, hs, ht⟩
  · have : l = [] := List.eq_nil_of_length_eq_zero h0
    subst this
    exact ⟨none, 0, rfl, Nat.le_refl _, Nat.zero_le _, .inl rfl⟩
  · refine ⟨_, cap, rfl, hn, hc, .inr ⟨g, 0, rfl, hg, ?_, fun i hi => ⟨?_, ?_⟩⟩⟩
    · rcases Nat.lt_or_ge g w.heap.size with h' | h'
      · exact h'
      · simp [Array.getElem?_eq_none h'] at hh
    · rw [Nat.zero_add]
      have e1 : cur[i]? = some (.int .u8 (l[i].toNat : Int)) := by
        have e2 : (bcells l)[i]? = some (.int .u8 (l[i].toNat : Int)) := by simp [bcells, hi]
        rw [← ht, List.getElem?_take] at e2
        rw [if_pos (by omega)] at e2
        simpa using e2
      simp [World.cell?, hh, e1]
    · simp [World.frozen?, hh]

theorem Buf.nil (B : Nat) (e : TypeId) (w : World) : Buf B e w (.slice none 0 0) [] := World.ownsRow_nil w B e 1

/-- A new row of no cell: '[]byte{}'. -/
theorem Buf.empty (B : Nat) (e : TypeId) (w : World) (hB : B ≤ w.heap.size) : Buf B e (w.alloc (.cells #[] e)) (.slice (some ⟨w.heap.size, 0, none⟩) 0 0) [] :=
  World.ownsRow_made w #[] 0 hB (Nat.zero_le _) rfl

theorem Buf.grown {B : Nat} {e : TypeId} {w w' : World} {v : Value} {l : List UInt8} (h : Buf B e w v l) (hg : w.grownBy w' v.ownBlock) (hB : B ≤ w.heap.size) {W : World} {B' : Nat} (hw : Below B' W w) (hb : B' ≤ B) : Below B' W w' :=
  hw.grown hg (by omega) (fun k hk => by have := h.lt k hk; omega)

theorem Buf.frame {B : Nat} {e : TypeId} {w w' : World} {v : Value} {l : List UInt8} (h : Buf B e w v l) (hg : w.grownBy w' v.ownBlock) : Fr B w.heap.size w w' :=
  ⟨hg.os, hg.tape, hg.output, hg.size, fun k hk ho => hg.block k hk (fun e => by have := h.lt k e.symm; omega)⟩

/-- A world that has more, but has left the buffer's row. -/
theorem Buf.keep {B : Nat} {e : TypeId} {w w' : World} {v : Value} {l : List UInt8} (h : Buf B e w v l) (x : Ext w w') : Buf B e w' v l := by
  have hlt := h.lt
  obtain ⟨h1, h2⟩ := h
  refine ⟨h1, ?_⟩
  rcases h2 with h2 | ⟨g, cap, cur, hv, hg, hh, r⟩
  · exact .inl h2
  · refine .inr ⟨g, cap, cur, hv, hg, ?_, r⟩
    rw [x.block (hlt g (by rw [hv]; rfl)).2]; exact hh

theorem Buf.keepFr {B lo hi : Nat} {e : TypeId} {w w' : World} {v : Value} {l : List UInt8} (h : Buf B e w v l) (x : Fr lo hi w w') (hd : hi ≤ B) : Buf B e w' v l := by
  have hlt := h.lt
  obtain ⟨h1, h2⟩ := h
  refine ⟨h1, ?_⟩
  rcases h2 with h2 | ⟨g, cap, cur, hv, hg, hh, r⟩
  · exact .inl h2
  · refine .inr ⟨g, cap, cur, hv, hg, ?_, r⟩
    rw [x.block g (hlt g (by rw [hv]; rfl)).2 (by omega)]; exact hh

theorem run_append_owned_none' {P : Program} {w : World} (base : Nat) (t ty e : TypeId) (i : TypeInfo) (size : Nat) (ht : P.underlying t = some (.slice e)) (hi : P.info? e = some i)
    (v : Value) (n : Nat) (xs : List Value) (hown : w.ownsRow base e size v n xs) (c : Nat) :
    (Builtin.append_ #[t, t] ty #[v, .slice none 0 c]).run P w = .ok v w := by
  rcases hown.2 with ⟨rfl, rfl⟩ | ⟨g, cap, cur, rfl, _, _, hnc, _⟩
  · simp [Builtin.append_, run_underlying ht, sizeOf, typeInfo, hi, Builtin.lenOf, Builtin.firstCells]
  · simp [Builtin.append_, run_underlying ht, sizeOf, typeInfo, hi, Builtin.lenOf, Builtin.firstCells, hnc, storeCells]

theorem run_appendBs {P : Program} {w : World} (t ty e : TypeId) (ht : P.underlying t = some (.slice e)) (hinfo : (P.info? e).map (fun i => (i.zero, i.size, i.bytes)) = some (some (.int .u8 0), 1, 1))
    (B : Nat) (v : Value) (l : List UInt8) (hv : Buf B e w v l) (sv : Value) (m : List UInt8) (hs : Bs w sv m) (hlen : l.length + m.length ≤ 140737488355328) (hB : B ≤ w.heap.size) :
    ∃ v' w', (Builtin.append_ #[t, t] ty #[v, sv]).run P w = .ok v' w' ∧ Buf B e w' v' (l ++ m) ∧ w.grownBy w' v.ownBlock := by
  obtain ⟨i, hi, hzz⟩ := Option.map_eq_some_iff.1 hinfo
  simp only [Prod.mk.injEq] at hzz
  obtain ⟨hz, hsz, hby⟩ := hzz
  obtain ⟨a, c, rfl, k1, k2, k3⟩ := hs
  have hm : l.length + m.length ≤ maxLen := by unfold maxLen; omega
  have fin : ∀ (ad : Addr), (∀ j u, (bcells m)[j]? = some u → w.cell? (ad.add j) = some u) → ∃ v' w', (Builtin.append_ #[t, t] ty #[v, .slice (some ad) m.length c]).run P w = .ok v' w' ∧ Buf B e w' v' (l ++ m) ∧ w.grownBy w' v.ownBlock := by
    intro ad had
    obtain ⟨v', w', hr, h2, h3, _⟩ := run_append_own (P := P) w B t ty e i (.int .u8 0) 1 1 ht hi hz hsz hby rfl (by omega) v l.length (bcells l) hv ad m.length c (bcells m) (by simp [bcells]) had (bcells_one m) hm (by omega) hB
    refine ⟨v', w', hr, ?_, h3⟩
    unfold Buf
    rw [bcells_append, List.length_append]
    exact h2
  rcases k3 with rfl | ⟨b, o, rfl, hc⟩
  · cases a with
    | some ad => exact fin ad (fun j u hu => by simp [bcells] at hu)
    | none =>
      refine ⟨v, w, ?_, by simpa using hv, World.grownBy.refl _ _⟩
      have := run_append_owned_none' (P := P) (w := w) B t ty e i 1 ht hi v l.length (bcells l) hv c
      exact this
  · exact fin _ (fun j u hu => by
      have hj : j < m.length := by
        have := (List.getElem?_eq_some_iff.1 hu).1
        simpa [bcells] using this
      rw [Addr.add_lit, hc j hj]
      simp [bcells, hj] at hu
      rw [← hu])

/-- 'append(v, sv...)'. -/
theorem wpList_appendBs {P : Program} {ops : Array Oper} {rest : List Oper} {o : Oper} {a : Act} {Q : Exit → Act → World → Prop} {w : World}
    (hw : Region.wanted o (yielded ops a.tmps) = true) (t : TypeId) (x y : Operand) (hop : o.op = Op.call { callee := .builtin .append, args := #[x, y], argTypes := #[t, t] })
    (e : TypeId) (ht : P.underlying t = some (.slice e)) (hinfo : (P.info? e).map (fun i => (i.zero, i.size, i.bytes)) = some (some (.int .u8 0), 1, 1))
    (B : Nat) (v : Value) (l : List UInt8) (hx : a.eval x = v) (hv : Buf B e w v l) (sv : Value) (m : List UInt8) (hy : a.eval y = sv) (hs : Bs w sv m) (hlen : l.length + m.length ≤ 140737488355328) (hB : B ≤ w.heap.size)
    (hK : ∀ v' w', Buf B e w' v' (l ++ m) → w.grownBy w' v.ownBlock → wpList P ops Q rest (a.put o.dst v') w') : wpList P ops Q (o :: rest) a w := by
  refine wpList_step fun K hK' => ?_
  rw [if_pos hw]
  obtain ⟨v', w', hr, h2, h3⟩ := run_appendBs (P := P) (w := w) t o.type e ht hinfo B v l hv sv m hs hlen hB
  unfold Oper.wp execOp
  simp only [hop, resolve, invoke, builtin, Sem.run_bind, Sem.run_pure, Result.andThen_ok, List.map_toArray, List.map_cons, List.map_nil, hx, hy, hr]
  exact hK' _ _ (hK v' w' h2 h3)

/-- A call's answer: the value x; memory may have grown. -/
def RetV (x : Value) (w : World) (e : Ending) (w' : World) : Prop := e = .returned x ∧ Ext w w'

/-- The slice value v holds the bytes l, in a block from 'lo' up to 'hi'. -/
def BsIn (lo hi : Nat) (w : World) (v : Value) (l : List UInt8) : Prop :=
  ∃ a c, v = .slice a l.length c ∧ l.length ≤ c ∧ c ≤ maxLen ∧
    (l = [] ∨ ∃ b o, a = some ⟨b, o, none⟩ ∧ lo ≤ b ∧ b < hi ∧ ∀ i (h : i < l.length), w.cell? ⟨b, o + i, none⟩ = some (.int .u8 (l[i].toNat : Int)))

theorem BsIn.bs {lo hi : Nat} {w : World} {v : Value} {l : List UInt8} (h : BsIn lo hi w v l) : Bs w v l := by
  obtain ⟨a, c, hv, h1, h2, h3⟩ := h
  refine ⟨a, c, hv, h1, h2, ?_⟩
  rcases h3 with h3 | ⟨b, o, ha, _, _, hc⟩
  · exact .inl h3
  · exact .inr ⟨b, o, ha, hc⟩

theorem Bs.isIn {w : World} {v : Value} {l : List UInt8} (h : Bs w v l) : BsIn 0 w.heap.size w v l := by
  obtain ⟨a, c, hv, h1, h2, h3⟩ := h
  refine ⟨a, c, hv, h1, h2, ?_⟩
  by_cases hl : l = []
  · exact .inl hl
  · obtain ⟨b, o, ha, hc⟩ := h3.resolve_left hl
    exact .inr ⟨b, o, ha, Nat.zero_le _, World.block_lt_of_cell? w _ (hc 0 (List.length_pos_iff.2 hl)), hc⟩

theorem Own.isIn {lo hi : Nat} {w : World} {v : Value} {l : List UInt8} (h : Own lo hi w v l) : BsIn lo hi w v l := by
  obtain ⟨a, c, hv, h1, h2, h3⟩ := h
  refine ⟨a, c, hv, h1, h2, ?_⟩
  rcases h3 with h3 | ⟨b, o, ha, b1, b2, hc⟩
  · exact .inl h3
  · exact .inr ⟨b, o, ha, b1, b2, fun i hi => (hc i hi).1⟩

theorem BsIn.fr {lo hi lo' hi' : Nat} {w w' : World} {v : Value} {l : List UInt8} (h : BsIn lo hi w v l) (x : Fr lo' hi' w w') (hd : hi ≤ lo' ∨ hi' ≤ lo) : BsIn lo hi w' v l := by
  obtain ⟨a, c, hv, k1, k2, h3⟩ := h
  refine ⟨a, c, hv, k1, k2, ?_⟩
  rcases h3 with h3 | ⟨b, o, ha, b1, b2, hc⟩
  · exact .inl h3
  · refine .inr ⟨b, o, ha, b1, b2, fun i hi => ?_⟩
    have hb := x.block b (World.block_lt_of_cell? w _ (hc i hi)) (by omega)
    exact (World.cell?_of_block (a := ⟨b, o + i, none⟩) hb).trans (hc i hi)

theorem BsIn.ext {lo hi : Nat} {w w' : World} {v : Value} {l : List UInt8} (h : BsIn lo hi w v l) (x : Ext w w') : BsIn lo hi w' v l :=
  (h.fr (x.fr hi hi) (.inl (Nat.le_refl _)))

theorem below_ext {B : Nat} {W w w' : World} (h : Below B W w) (k : Ext w w') (h2 : B ≤ w.heap.size) : Below B W w' := h.trans (k.below.mono h2)

theorem Bs.one (w : World) (e : TypeId) (x : UInt8) : Bs (w.alloc (.cells #[.int .u8 (x.toNat : Int)] e)) (.slice (some ⟨w.heap.size, 0, none⟩) 1 1) [x] := by
  refine ⟨_, 1, rfl, Nat.le_refl _, by unfold maxLen; omega, .inr ⟨w.heap.size, 0, rfl, fun i hi => ?_⟩⟩
  have hi0 : i = 0 := by simp at hi; exact hi
  subst hi0
  rw [Nat.zero_add, World.cell?_alloc_mark]
  rfl

/-- 'make([]byte, 0, n)'. -/
theorem wpList_mkBuf {P : Program} {ops : Array Oper} {rest : List Oper} {o : Oper} {a : Act} {Q : Exit → Act → World → Prop} {w : World}
    (hw : Region.wanted o (yielded ops a.tmps) = true) (t : TypeId) (x y : Operand) (hop : o.op = Op.makeSlice t x y)
    (e : TypeId) (ht : P.underlying t = some (.slice e)) (hinfo : (P.info? e).map (fun i => (i.zero, i.size, i.bytes)) = some (some (.int .u8 0), 1, 1))
    (kl kc : IntKind) (C : Int) (n : Nat) (hx : a.eval x = .int kl 0) (hy : a.eval y = .int kc C) (hC : C = (n : Int)) (hn : n ≤ 281474976710656)
    (hK : ∀ v w', Buf w.heap.size e w' v [] → Ext w w' → wpList P ops Q rest (a.put o.dst v) w') :
    wpList P ops Q (o :: rest) a w := by
  obtain ⟨i, hi, hzz⟩ := Option.map_eq_some_iff.1 hinfo
  simp only [Prod.mk.injEq] at hzz
  obtain ⟨hz, hsz, hby⟩ := hzz
  refine wpList_step fun K hK' => ?_
  rw [if_pos hw]
  obtain ⟨w', hrun, r1, r2⟩ := run_make_own (P := P) w w.heap.size t e i (.int .u8 0) 1 ht hi hz hsz kl kc n (by rw [hby]; omega) (by unfold maxLen; omega) (Nat.le_refl _)
  subst hC
  unfold Oper.wp
  simp [execOp, hop, hx, hy, hrun, Result.andThen]
  exact hK' _ _ (hK _ w' r1 ⟨⟨r2.os, r2.tape, r2.output, r2.size, fun k hk => r2.block k hk (by simp)⟩⟩)

/-- In a region that draws its order and only reads: an operation whose answer is known. -/
theorem wpQuiet_val {P : Program} {ops : Array Oper} {rest : List Oper} {o : Oper} {a : Act} {C : World → Prop} {Q : Act → Prop}
    (hw : Region.wanted o (yielded ops a.tmps) = true) (v : Value) (h : ∀ w', C w' → (execOp a.eval o).run P w' = .ok (.value v) w')
    (hK : wpQuiet P ops C Q rest (a.put o.dst v)) : wpQuiet P ops C Q (o :: rest) a :=
  BigFrame.wpQuiet_want hw fun K hk => ⟨v, fun w' hw' => by unfold Oper.quietAt; rw [h w' hw']; exact ⟨rfl, rfl⟩, hk _ hK⟩

theorem wpQuiet_toString {P : Program} {ops : Array Oper} {rest : List Oper} {o : Oper} {a : Act} {w : World} {Q : Act → Prop}
    (hw : Region.wanted o (yielded ops a.tmps) = true) (src dst : TypeId) (x : Operand) (hop : o.op = Op.convert src dst x)
    (e : TypeId) (hs : P.underlying src = some (.slice e)) (he : P.underlying e = some (.int .u8)) (hd : P.underlying dst = some .string)
    (l : List UInt8) (v : Value) (hx : a.eval x = v) (hb : Bs w v l)
    (hK : wpQuiet P ops (fun w' => ∃ n, w' = w.drewN n) Q rest (a.put o.dst (.string ⟨l.toArray⟩))) :
    wpQuiet P ops (fun w' => ∃ n, w' = w.drewN n) Q (o :: rest) a := by
  refine wpQuiet_val hw _ ?_ hK
  rintro w' ⟨n, rfl⟩
  have hrun := run_toString (P := P) src dst e hs he hd (hb.ext (Ext.drewN w n))
  simp [execOp, hop, hx, hrun, Result.andThen]

theorem wpQuiet_subL {P : Program} {ops : Array Oper} {rest : List Oper} {o : Oper} {a : Act} {w : World} {Q : Act → Prop}
    (hw : Region.wanted o (yielded ops a.tmps) = true) (t : TypeId) (x y : Operand) (hop : o.op = Op.slice t x (some y) none none)
    (e : TypeId) (ht : P.underlying t = some (.slice e)) {z : Value} {by_ : Nat} (hinfo : (P.info? e).map (fun i => (i.zero, i.size, i.bytes)) = some (some z, 1, by_))
    (v : Value) (L : List UInt8) (hx : a.eval x = v) (hb : Bs w v L) (k : IntKind) (I : Int) (hy : a.eval y = .int k I) (l : Nat) (hI : I = (l : Int)) (hl : l ≤ L.length)
    (hK : ∀ v', Bs w v' (L.drop l) → wpQuiet P ops (fun w' => ∃ n, w' = w.drewN n) Q rest (a.put o.dst v')) :
    wpQuiet P ops (fun w' => ∃ n, w' = w.drewN n) Q (o :: rest) a := by
  obtain ⟨ad, c, rfl, h1, h2⟩ := hb.shape
  subst hI
  have e1 : part L l L.length = L.drop l := by simp [part]
  refine wpQuiet_val hw (sliced ad l L.length c 1) ?_ (hK _ (e1 ▸ hb.sliced hl (Nat.le_refl _) h1 (Nat.le_refl _)))
  rintro w' ⟨n, rfl⟩
  have hrun := run_sub_l (P := P) (w := w.drewN n) ht hinfo ad L.length c k l hl
  simp [execOp, hop, hx, hy, hrun, Result.andThen]

theorem wpQuiet_subH {P : Program} {ops : Array Oper} {rest : List Oper} {o : Oper} {a : Act} {w : World} {Q : Act → Prop}
    (hw : Region.wanted o (yielded ops a.tmps) = true) (t : TypeId) (x y : Operand) (hop : o.op = Op.slice t x none (some y) none)
    (e : TypeId) (ht : P.underlying t = some (.slice e)) {z : Value} {by_ : Nat} (hinfo : (P.info? e).map (fun i => (i.zero, i.size, i.bytes)) = some (some z, 1, by_))
    (v : Value) (L : List UInt8) (hx : a.eval x = v) (hb : Bs w v L) (k : IntKind) (I : Int) (hy : a.eval y = .int k I) (h : Nat) (hI : I = (h : Int)) (hh : h ≤ L.length)
    (hK : ∀ v', Bs w v' (L.take h) → wpQuiet P ops (fun w' => ∃ n, w' = w.drewN n) Q rest (a.put o.dst v')) :
    wpQuiet P ops (fun w' => ∃ n, w' = w.drewN n) Q (o :: rest) a := by
  obtain ⟨ad, c, rfl, h1, h2⟩ := hb.shape
  subst hI
  have e1 : part L 0 h = L.take h := by simp [part]
  refine wpQuiet_val hw (sliced ad 0 h c 1) ?_ (hK _ (e1 ▸ hb.sliced (Nat.zero_le _) hh (by omega) (Nat.le_refl _)))
  rintro w' ⟨n, rfl⟩
  have hrun := run_sub_h (P := P) (w := w.drewN n) ht hinfo ad L.length c k h (by omega)
  simp [execOp, hop, hx, hy, hrun, Result.andThen]

theorem wpQuiet_subLH {P : Program} {ops : Array Oper} {rest : List Oper} {o : Oper} {a : Act} {w : World} {Q : Act → Prop}
    (hw : Region.wanted o (yielded ops a.tmps) = true) (t : TypeId) (x y y' : Operand) (hop : o.op = Op.slice t x (some y) (some y') none)
    (e : TypeId) (ht : P.underlying t = some (.slice e)) {z : Value} {by_ : Nat} (hinfo : (P.info? e).map (fun i => (i.zero, i.size, i.bytes)) = some (some z, 1, by_))
    (v : Value) (L : List UInt8) (hx : a.eval x = v) (hb : Bs w v L) (k k' : IntKind) (I I' : Int) (hy : a.eval y = .int k I) (hy' : a.eval y' = .int k' I') (l h : Nat) (hI : I = (l : Int)) (hI' : I' = (h : Int)) (hl : l ≤ h) (hh : h ≤ L.length)
    (hK : ∀ v', Bs w v' (part L l h) → wpQuiet P ops (fun w' => ∃ n, w' = w.drewN n) Q rest (a.put o.dst v')) :
    wpQuiet P ops (fun w' => ∃ n, w' = w.drewN n) Q (o :: rest) a := by
  obtain ⟨ad, c, rfl, h1, h2⟩ := hb.shape
  subst hI hI'
  refine wpQuiet_val hw (sliced ad l h c 1) ?_ (hK _ (hb.sliced hl hh (by omega) (Nat.le_refl _)))
  rintro w' ⟨n, rfl⟩
  have hrun := run_sub_lh (P := P) (w := w.drewN n) ht hinfo ad L.length c k k' l h hl (by omega)
  simp [execOp, hop, hx, hy, hy', hrun, Result.andThen]
end Go.Proofs.YtiahholgpbjjfaaDoor
