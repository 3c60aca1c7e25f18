/- Words on slices of bytes in the model's memory, how they stay when memory grows, and laws of the walk for conversions between strings and slices of bytes. No condition. -/
import Derived.WalkKit
import Derived.WalkLawsBesides
import Derived.WalkSpells
import Derived.Lib.Hide
import Derived.Lib.ConvBytes
import Derived.Lib.BufferRead
namespace Go.Proofs.Ytemlijpkdccflaa
open Go.RowKit

/-- What was there is as it was; there may be more. -/
structure Ext (w w' : World) : Prop where
  below : Below w.heap.size w w'

theorem Ext.refl (w : World) : Ext w w := ⟨Below.refl _ _⟩
theorem Ext.size {w w' : World} (h : Ext w w') : w.heap.size ≤ w'.heap.size := h.below.size
theorem Ext.trans {a b c : World} (h : Ext a b) (k : Ext b c) : Ext a c := ⟨h.below.trans (k.below.mono h.size)⟩
theorem Ext.alloc (w : World) (o : Obj) : Ext w (w.alloc o) := ⟨(Below.refl _ _).alloc (Nat.le_refl _) _⟩
theorem Ext.drew (w : World) : Ext w w.drew := ⟨(Below.refl _ _).drew⟩
theorem Ext.drewN (w : World) (n : Nat) : Ext w (w.drewN n) := ⟨⟨rfl, rfl, rfl, Nat.le_refl _, fun _ _ => rfl⟩⟩
theorem Ext.block {w w' : World} (h : Ext w w') {k : Nat} (hk : k < w.heap.size) : w'.heap[k]? = w.heap[k]? := h.below.block k hk
theorem Ext.cell {w w' : World} (h : Ext w w') {p : Addr} {v : Value} (hc : w.cell? p = some v) : w'.cell? p = some v :=
  (h.below.cell (World.block_lt_of_cell? w p hc)).trans hc

/-- Only blocks from 'lo' up to 'hi' may have changed; there may be more. -/
structure Fr (lo hi : Nat) (w w' : World) : Prop where
  os : w'.os = w.os
  tape : w'.tape = w.tape
  output : w'.output = w.output
  size : w.heap.size ≤ w'.heap.size
  block : ∀ k, k < w.heap.size → (k < lo ∨ hi ≤ k) → w'.heap[k]? = w.heap[k]?

theorem Fr.refl (lo hi : Nat) (w : World) : Fr lo hi w w := ⟨rfl, rfl, rfl, Nat.le_refl _, fun _ _ _ => rfl⟩
theorem Fr.trans {lo hi : Nat} {a b c : World} (h : Fr lo hi a b) (k : Fr lo hi b c) : Fr lo hi a c :=
  ⟨k.os.trans h.os, k.tape.trans h.tape, k.output.trans h.output, Nat.le_trans h.size k.size, fun i hi' ho => (k.block i (Nat.lt_of_lt_of_le hi' h.size) ho).trans (h.block i hi' ho)⟩
theorem Fr.mono {lo hi lo' hi' : Nat} {a b : World} (h : Fr lo hi a b) (h1 : lo' ≤ lo) (h2 : hi ≤ hi') : Fr lo' hi' a b :=
  ⟨h.os, h.tape, h.output, h.size, fun k hk ho => h.block k hk (by omega)⟩
theorem Ext.fr {w w' : World} (h : Ext w w') (lo hi : Nat) : Fr lo hi w w' :=
  ⟨h.below.os, h.below.tape, h.below.output, h.size, fun _ hk _ => h.block hk⟩
theorem Fr.setCell {lo hi : Nat} {w : World} {p : Addr} (h1 : lo ≤ p.block) (h2 : p.block < hi) (u : Value) : Fr lo hi w (w.setCell p u) :=
  ⟨rfl, rfl, rfl, by simp [World.setCell], fun k _ ho => Below.heap_setCell _ _ _ _ (by omega)⟩
theorem Fr.drew {lo hi : Nat} {a w : World} (h : Fr lo hi a w) : Fr lo hi a w.drew := ⟨h.os, h.tape, h.output, h.size, h.block⟩
/-- What is done to blocks from B on leaves what lies below. -/
theorem below_fr {B lo hi : Nat} {W w w' : World} (h : Below B W w) (k : Fr lo hi w w') (h1 : B ≤ lo ∨ hi ≤ lo) (h2 : B ≤ w.heap.size) : Below B W w' :=
  h.trans ⟨k.os, k.tape, k.output, k.size, fun i hi' => k.block i (by omega) (by omega)⟩

/-- The slice value v holds the bytes l. -/
def Bs (w : World) (v : Value) (l : List UInt8) : Prop :=
  ∃ a c, v = .slice a l.length c ∧ l.length ≤ c ∧ c ≤ maxLen ∧
    (l = [] ∨ ∃ b o, a = some ⟨b, o, none⟩ ∧ ∀ i (h : i < l.length), w.cell? ⟨b, o + i, none⟩ = some (.int .u8 (l[i].toNat : Int)))

theorem Bs.ext {w w' : World} {v : Value} {l : List UInt8} (h : Bs w v l) (x : Ext w w') : Bs w' v l := by
  obtain ⟨a, c, hv, h1, h2, h3⟩ := h
  refine ⟨a, c, hv, h1, h2, ?_⟩
  rcases h3 with h3 | ⟨b, o, ha, hc⟩
  · exact .inl h3
  · exact .inr ⟨b, o, ha, fun i hi => x.cell (hc i hi)⟩

theorem Bs.nil (w : World) : Bs w (.slice none 0 0) [] := ⟨none, 0, rfl, Nat.le_refl _, Nat.zero_le _, .inl rfl⟩

/-- The slice value v holds the bytes l, in a block of its own from 'lo' up to 'hi', which may be written. -/
def Own (lo hi : Nat) (w : World) (v : Value) (l : List UInt8) : Prop :=
  ∃ a c, v = .slice a l.length c ∧ l.length ≤ c ∧ c ≤ maxLen ∧
    (l = [] ∨ ∃ b o, a = some ⟨b, o, none⟩ ∧ lo ≤ b ∧ b < hi ∧ ∀ i (h : i < l.length), w.cell? ⟨b, o + i, none⟩ = some (.int .u8 (l[i].toNat : Int)) ∧ w.frozen? ⟨b, o + i, none⟩ = false)

theorem Own.bs {lo hi : Nat} {w : World} {v : Value} {l : List UInt8} (h : Own lo hi w v l) : Bs w v l := by
  obtain ⟨a, c, hv, h1, h2, h3⟩ := h
  refine ⟨a, c, hv, h1, h2, ?_⟩
  rcases h3 with h3 | ⟨b, o, ha, _, _, hc⟩
  · exact .inl h3
  · exact .inr ⟨b, o, ha, fun i hi => (hc i hi).1⟩

theorem Own.mono {lo hi lo' hi' : Nat} {w : World} {v : Value} {l : List UInt8} (h : Own lo hi w v l) (h1 : lo' ≤ lo) (h2 : hi ≤ hi') : Own lo' hi' w v l := by
  obtain ⟨a, c, hv, k1, k2, h3⟩ := h
  refine ⟨a, c, hv, k1, k2, ?_⟩
  rcases h3 with h3 | ⟨b, o, ha, b1, b2, hc⟩
  · exact .inl h3
  · exact .inr ⟨b, o, ha, by omega, by omega, hc⟩

theorem Own.fr {lo hi lo' hi' : Nat} {w w' : World} {v : Value} {l : List UInt8} (h : Own lo hi w v l) (x : Fr lo' hi' w w') (hd : hi ≤ lo' ∨ hi' ≤ lo) : Own lo hi w' v l := by
  obtain ⟨a, c, hv, k1, k2, h3⟩ := h
  refine ⟨a, c, hv, k1, k2, ?_⟩
  rcases h3 with h3 | ⟨b, o, ha, b1, b2, hc⟩
  · exact .inl h3
  · refine .inr ⟨b, o, ha, b1, b2, fun i hi => ?_⟩
    have hb := x.block b (World.block_lt_of_cell? w _ (hc i hi).1) (by omega)
    exact ⟨(World.cell?_of_block (a := ⟨b, o + i, none⟩) hb).trans (hc i hi).1, (World.frozen?_of_block (a := ⟨b, o + i, none⟩) hb).trans (hc i hi).2⟩

theorem Own.ext {lo hi : Nat} {w w' : World} {v : Value} {l : List UInt8} (h : Own lo hi w v l) (x : Ext w w') : Own lo hi w' v l :=
  (h.fr (x.fr hi hi) (.inl (Nat.le_refl _)))


theorem grownCap_ge (w : World) (n old : Nat) (e : TypeId) : n ≤ grownCap w n old e := by
  show n ≤ n + _
  omega
theorem grownCap_le (w : World) (n old : Nat) (e : TypeId) (h : n ≤ maxLen) : grownCap w n old e ≤ maxLen := by
  have := Nat.mod_lt (w.tape w.drawn (.appendCap n old e)) (show 0 < 2 ^ 63 - n by unfold maxLen at h; omega)
  show n + w.tape w.drawn (.appendCap n old e) % (2 ^ 63 - n) ≤ _
  unfold maxLen at *
  omega

theorem bytesWorld_ext (w : World) (e : TypeId) (s : ByteArray) : Ext w (Lib.bytesWorld w e s) :=
  ⟨⟨rfl, rfl, rfl, by rw [Lib.bytesWorld_size]; omega, fun k hk => Lib.bytesWorld_at_old w e s k hk⟩⟩

theorem bytesWorld_own (w : World) (e : TypeId) (s : ByteArray) (hb : s.size ≤ maxLen) :
    Own w.heap.size (Lib.bytesWorld w e s).heap.size (Lib.bytesWorld w e s) (.slice (some ⟨w.heap.size, 0, none⟩) s.size (grownCap w s.size 0 e)) s.data.toList := by
  refine ⟨_, _, rfl, grownCap_ge _ _ _ _, grownCap_le _ _ _ _ hb, .inr ⟨_, _, rfl, Nat.le_refl _, by rw [Lib.bytesWorld_size]; omega, fun i hi => ⟨?_, ?_⟩⟩⟩
  · have hi' : i < s.size := hi
    rw [Nat.zero_add, Lib.bytesWorld_cell w e s i hi']
    simp [List.getD, List.getElem?_eq_getElem hi]
  · unfold World.frozen?
    rw [Lib.bytesWorld_at_new]
    have hi' : i < s.size := hi
    simp [Lib.bytesCells]
    omega

/-- '[]byte(s)': a new slice of the bytes of s. -/
theorem wpList_toBytes {P : Program} {ops : Array Oper} {rest : List Oper} {o : Oper} {a : Act} {Q : Exit → Act → World → Prop} {w : World}
    (hw : Region.wanted o (yielded ops a.tmps) = true) (src dst : TypeId) (x : Operand) (hop : o.op = Op.convert src dst x)
    (e : TypeId) (hs : P.underlying src = some .string) (hd : P.underlying dst = some (.slice e)) (he : P.underlying e = some (.int .u8))
    (s : ByteArray) (hx : a.eval x = .string s) (hb : s.size ≤ maxLen)
    (hK : ∀ v w', Own w.heap.size w'.heap.size w' v s.data.toList → Ext w w' → wpList P ops Q rest (a.put o.dst v) w') :
    wpList P ops Q (o :: rest) a w := by
  refine wpList_step fun K hK' => ?_
  rw [if_pos hw]
  have hrun := Lib.run_convert_string_bytes (P := P) w src dst e s hs hd he
  unfold Oper.wp
  simp [execOp, hop, hx, hrun, Result.andThen]
  exact hK' _ _ (hK _ _ (bytesWorld_own w e s hb) (bytesWorld_ext w e s))

theorem run_toString {P : Program} {w : World} (src dst e : TypeId) (hs : P.underlying src = some (.slice e)) (he : P.underlying e = some (.int .u8)) (hd : P.underlying dst = some .string)
    {v : Value} {l : List UInt8} (h : Bs w v l) : (convert src dst v).run P w = .ok (.string ⟨l.toArray⟩) w := by
  obtain ⟨a, c, rfl, h1, h2, h3⟩ := h
  rcases h3 with rfl | ⟨b, o, rfl, hc⟩
  · cases a with
    | none => exact Lib.run_convert_nil_bytes w src dst e c hs he hd
    | some a => exact run_convert_bytes_back w src dst e a c [] hs he hd (fun j hj => by simp at hj)
  · exact run_convert_bytes_back w src dst e _ c l hs he hd (fun j hj => by rw [Addr.add_lit]; exact hc j hj)

/-- 'string(b)'. -/
theorem wpList_toString {P : Program} {ops : Array Oper} {rest : List Oper} {o : Oper} {a : Act} {Q : Exit → Act → World → Prop} {w : World}
    (hw : Region.wanted o (yielded ops a.tmps) = true) (src dst : TypeId) (x : Operand) (hop : o.op = Op.convert src dst x)
    (e : TypeId) (hs : P.underlying src = some (.slice e)) (he : P.underlying e = some (.int .u8)) (hd : P.underlying dst = some .string)
    (l : List UInt8) (v : Value) (hx : a.eval x = v) (hb : Bs w v l)
    (hK : wpList P ops Q rest (a.put o.dst (.string ⟨l.toArray⟩)) w) :
    wpList P ops Q (o :: rest) a w := by
  refine wpList_step fun K hK' => ?_
  rw [if_pos hw]
  have hrun := run_toString (P := P) (w := w) src dst e hs he hd hb
  unfold Oper.wp
  simp [execOp, hop, hx, hrun, Result.andThen]
  exact hK' _ _ hK

theorem run_loadBytes {P : Program} (w : World) : ∀ (l : List UInt8) (b o : Nat) (acc : ByteArray), (∀ i (h : i < l.length), w.cell? ⟨b, o + i, none⟩ = some (.int .u8 (l[i].toNat : Int))) →
    (Extern.Bytes.loadBytes ⟨b, o, none⟩ l.length acc).run P w = .ok ⟨acc.data ++ l.toArray⟩ w
  | [], b, o, acc, _ => by simp [Extern.Bytes.loadBytes]
  | x :: l, b, o, acc, h => by
    have h0 : w.cell? ⟨b, o, none⟩ = some (.int .u8 (x.toNat : Int)) := h 0 (Nat.succ_pos _)
    have ih := run_loadBytes (P := P) w l b (o + 1) (acc.push x) (fun j hj => by
      have := h (j + 1) (by simpa using hj)
      simpa [Nat.add_assoc, Nat.add_comm 1 j] using this)
    simp only [List.length_cons, Extern.Bytes.loadBytes, Sem.run_bind, run_load, h0, Result.andThen, Addr.add_lit]
    have e : ((x.toNat : Int)).toNat.toUInt8 = x := by simp
    rw [e, ih]
    congr 1
    apply ByteArray.ext
    simp [ByteArray.push]

theorem run_bytesOf {P : Program} {w : World} {v : Value} {l : List UInt8} (h : Bs w v l) : (Extern.Bytes.bytesOf v).run P w = .ok ⟨l.toArray⟩ w := by
  obtain ⟨a, c, rfl, h1, h2, h3⟩ := h
  have e0 : ByteArray.empty.data = #[] := rfl
  rcases h3 with rfl | ⟨b, o, rfl, hc⟩
  · cases a with
    | none => rfl
    | some a => rfl
  · have := run_loadBytes (P := P) w l b o .empty hc
    rw [e0] at this
    simpa [Extern.Bytes.bytesOf] using this

/-- A call of a function without a body, which the model knows. -/
theorem wpList_extern {P : Program} {ops : Array Oper} {rest : List Oper} {o : Oper} {a : Act} {Q : Exit → Act → World → Prop} {w : World}
    (hw : Region.wanted o (yielded ops a.tmps) = true) (F : FuncId) (args : Array Operand) (tys : Array TypeId) (hop : o.op = Op.call { callee := .value (.func F), args := args, argTypes := tys })
    {fn : Func} {e : Array Value → Sem Value} (hf : P.funcs[F]? = some fn) (hname : (fn.name == "runtime.NumGoroutine") = false)
    (hb : fn.body.isNone = true) (hn : Extern.findNext fn = none) (he : Extern.find fn = some e) (vs : Array Value) (hv : args.map a.eval = vs) (v : Value) (w' : World)
    (hrun : (e vs).run P w = .ok v w')
    (hK : wpList P ops Q rest (a.put o.dst v) w') : wpList P ops Q (o :: rest) a w := by
  refine wpList_step fun K hK' => ?_
  rw [if_pos hw]
  have h1 := run_callFunc_extern hf hname hb hn he vs w
  rw [hrun] at h1
  unfold Oper.wp
  simp [execOp, hop, resolve, invoke, Deferred.ofValue, Act.eval, hv, h1, Result.andThen]
  exact hK' _ _ hK

theorem wpList_extern2 {P : Program} {ops : Array Oper} {rest : List Oper} {o : Oper} {a : Act} {Q : Exit → Act → World → Prop} {w : World}
    (hw : Region.wanted o (yielded ops a.tmps) = true) (F : FuncId) (x y : Operand) (tys : Array TypeId) (hop : o.op = Op.call { callee := .value (.func F), args := #[x, y], argTypes := tys })
    {fn : Func} {e : Array Value → Sem Value} (hf : P.funcs[F]? = some fn) (hname : (fn.name == "runtime.NumGoroutine") = false)
    (hb : fn.body.isNone = true) (hn : Extern.findNext fn = none) (he : Extern.find fn = some e) (v1 v2 : Value) (h1 : a.eval x = v1) (h2 : a.eval y = v2) (v : Value) (w' : World)
    (hrun : (e #[v1, v2]).run P w = .ok v w')
    (hK : wpList P ops Q rest (a.put o.dst v) w') : wpList P ops Q (o :: rest) a w :=
  wpList_extern hw F #[x, y] tys hop hf hname hb hn he #[v1, v2] (by simp [h1, h2]) v w' hrun hK
end Go.Proofs.Ytemlijpkdccflaa
