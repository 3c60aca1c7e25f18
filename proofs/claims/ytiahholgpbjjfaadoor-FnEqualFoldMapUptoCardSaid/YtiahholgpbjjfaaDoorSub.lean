/- Slices of a slice of bytes whose new value is good in every world in which the old one is. No condition. -/
import Derived.Test.YtiahholgpbjjfaaDoorBase
namespace Go.Proofs.YtiahholgpbjjfaaDoor
open Go.RowKit

theorem wpList_subLW {P : Program} {ops : Array Oper} {rest : List Oper} {o : Oper} {a : Act} {Q : Exit → Act → World → Prop} {w : World}
    (hw : Region.wanted o (yielded ops a.tmps) = true) (t : TypeId) (x y : Operand) (hop : o.op = Op.slice t x (some y) none none)
    (e : TypeId) (ht : P.underlying t = some (.slice e)) {z : Value} {by_ : Nat} (hinfo : (P.info? e).map (fun i => (i.zero, i.size, i.bytes)) = some (some z, 1, by_))
    (v : Value) (L : List UInt8) (w0 : World) (hx : a.eval x = v) (hb : Bs w0 v L) (k : IntKind) (I : Int) (hy : a.eval y = .int k I) (l : Nat) (hI : I = (l : Int)) (hl : l ≤ L.length)
    (hK : ∀ v', Bs w0 v' (L.drop l) → wpList P ops Q rest (a.put o.dst v') w) : wpList P ops Q (o :: rest) a w := by
  refine wpList_step fun K hK' => ?_
  rw [if_pos hw]
  obtain ⟨ad, c, rfl, h1, h2⟩ := hb.shape
  subst hI
  have hrun := run_sub_l (P := P) (w := w) ht hinfo ad L.length c k l hl
  have e1 : part L l L.length = L.drop l := by simp [part]
  unfold Oper.wp
  simp [execOp, hop, hx, hy, hrun, Result.andThen]
  exact hK' _ _ (hK _ (e1 ▸ hb.sliced hl (Nat.le_refl _) h1 (Nat.le_refl _)))

theorem wpList_subHW {P : Program} {ops : Array Oper} {rest : List Oper} {o : Oper} {a : Act} {Q : Exit → Act → World → Prop} {w : World}
    (hw : Region.wanted o (yielded ops a.tmps) = true) (t : TypeId) (x y : Operand) (hop : o.op = Op.slice t x none (some y) none)
    (e : TypeId) (ht : P.underlying t = some (.slice e)) {z : Value} {by_ : Nat} (hinfo : (P.info? e).map (fun i => (i.zero, i.size, i.bytes)) = some (some z, 1, by_))
    (v : Value) (L : List UInt8) (w0 : World) (hx : a.eval x = v) (hb : Bs w0 v L) (k : IntKind) (I : Int) (hy : a.eval y = .int k I) (h : Nat) (hI : I = (h : Int)) (hh : h ≤ L.length)
    (hK : ∀ v', Bs w0 v' (L.take h) → wpList P ops Q rest (a.put o.dst v') w) : wpList P ops Q (o :: rest) a w := by
  refine wpList_step fun K hK' => ?_
  rw [if_pos hw]
  obtain ⟨ad, c, rfl, h1, h2⟩ := hb.shape
  subst hI
  have hrun := run_sub_h (P := P) (w := w) ht hinfo ad L.length c k h (by omega)
  have e1 : part L 0 h = L.take h := by simp [part]
  unfold Oper.wp
  simp [execOp, hop, hx, hy, hrun, Result.andThen]
  exact hK' _ _ (hK _ (e1 ▸ hb.sliced (Nat.zero_le _) hh (by omega) (Nat.le_refl _)))

theorem wpList_subLHW {P : Program} {ops : Array Oper} {rest : List Oper} {o : Oper} {a : Act} {Q : Exit → Act → World → Prop} {w : World}
    (hw : Region.wanted o (yielded ops a.tmps) = true) (t : TypeId) (x y y' : Operand) (hop : o.op = Op.slice t x (some y) (some y') none)
    (e : TypeId) (ht : P.underlying t = some (.slice e)) {z : Value} {by_ : Nat} (hinfo : (P.info? e).map (fun i => (i.zero, i.size, i.bytes)) = some (some z, 1, by_))
    (v : Value) (L : List UInt8) (w0 : World) (hx : a.eval x = v) (hb : Bs w0 v L) (k k' : IntKind) (I I' : Int) (hy : a.eval y = .int k I) (hy' : a.eval y' = .int k' I') (l h : Nat) (hI : I = (l : Int)) (hI' : I' = (h : Int)) (hl : l ≤ h) (hh : h ≤ L.length)
    (hK : ∀ v', Bs w0 v' (part L l h) → wpList P ops Q rest (a.put o.dst v') w) : wpList P ops Q (o :: rest) a w := by
  refine wpList_step fun K hK' => ?_
  rw [if_pos hw]
  obtain ⟨ad, c, rfl, h1, h2⟩ := hb.shape
  subst hI hI'
  have hrun := run_sub_lh (P := P) (w := w) ht hinfo ad L.length c k k' l h hl (by omega)
  unfold Oper.wp
  simp [execOp, hop, hx, hy, hy', hrun, Result.andThen]
  exact hK' _ _ (hK _ (hb.sliced hl hh (by omega) (Nat.le_refl _)))

theorem wpList_subLHMW {P : Program} {ops : Array Oper} {rest : List Oper} {o : Oper} {a : Act} {Q : Exit → Act → World → Prop} {w : World}
    (hw : Region.wanted o (yielded ops a.tmps) = true) (t : TypeId) (x y y' y'' : Operand) (hop : o.op = Op.slice t x (some y) (some y') (some y''))
    (e : TypeId) (ht : P.underlying t = some (.slice e)) {z : Value} {by_ : Nat} (hinfo : (P.info? e).map (fun i => (i.zero, i.size, i.bytes)) = some (some z, 1, by_))
    (v : Value) (L : List UInt8) (w0 : World) (hx : a.eval x = v) (hb : Bs w0 v L) (k k' k'' : IntKind) (I I' : Int) (hy : a.eval y = .int k I) (hy' : a.eval y' = .int k' I') (hy'' : a.eval y'' = .int k'' I') (l h : Nat) (hI : I = (l : Int)) (hI' : I' = (h : Int)) (hl : l ≤ h) (hh : h ≤ L.length)
    (hK : ∀ v', Bs w0 v' (part L l h) → wpList P ops Q rest (a.put o.dst v') w) : wpList P ops Q (o :: rest) a w := by
  refine wpList_step fun K hK' => ?_
  rw [if_pos hw]
  obtain ⟨ad, c, rfl, h1, h2⟩ := hb.shape
  subst hI hI'
  have hrun := run_sub_lhm (P := P) (w := w) ht hinfo ad L.length c k k' k'' l h h hl (Nat.le_refl _) (by omega)
  unfold Oper.wp
  simp [execOp, hop, hx, hy, hy', hy'', hrun, Result.andThen]
  exact hK' _ _ (hK _ (hb.sliced hl hh (Nat.le_refl _) (by omega)))
end Go.Proofs.YtiahholgpbjjfaaDoor
