/- The iterator of bytes.Lines: it writes the variable that it captured. -/
import Derived.Test.YtlgoeiofachohaaGathF
import Derived.Test.YtlgoeiofachohaaLinesP
import Derived.Test.YtlgoeiofachohaaWrapA
import Derived.Deep.DeepCutAuto
namespace Go.Proofs.Ytlgoeiofachohaa
open Go.RowKit Go.Shelf

theorem firstB_split (b : UInt8) : ∀ l : List UInt8, (firstB l b = -1 ∧ ∀ x ∈ l, x ≠ b) ∨ ∃ a r, l = a ++ b :: r ∧ (∀ x ∈ a, x ≠ b) ∧ firstB l b = a.length
  | [] => .inl ⟨rfl, fun x hx => by cases hx⟩
  | x :: l => by
    by_cases h : x = b
    · exact .inr ⟨[], l, by rw [h]; rfl, fun y hy => (by cases hy), by simp [firstB, h]⟩
    · rcases firstB_split b l with ⟨h1, h2⟩ | ⟨a, r, h1, h2, h3⟩
      · refine .inl ⟨by simp [firstB, h, h1], fun y hy => ?_⟩
        rcases List.mem_cons.1 hy with rfl | hy
        · exact h
        · exact h2 y hy
      · refine .inr ⟨x :: a, r, by rw [h1]; rfl, fun y hy => ?_, ?_⟩
        · rcases List.mem_cons.1 hy with rfl | hy
          · exact h
          · exact h2 y hy
        · rw [firstB, if_neg h, h3, if_neg (by omega)]
          simp

/-- A text lies where it lay, if only a box of a slice was written. -/
theorem bs_frBox {w W : World} {v : Value} {r : List UInt8} {b1 : Nat} {t : TypeId} {a : Option Addr} {n c : Nat} (h : Bs w v r) (bx : Boxed w b1 t (.slice a n c)) (x : Fr b1 (b1 + 1) w W) : Bs W v r := by
  obtain ⟨ad, cc, hv, k1, k2, h3⟩ := h
  refine ⟨ad, cc, hv, k1, k2, ?_⟩
  rcases h3 with h3 | ⟨b', p, ha, hc⟩
  · exact .inl h3
  · refine .inr ⟨b', p, ha, fun i hi => ?_⟩
    have h1 := hc i hi
    have hne : b' ≠ b1 := by
      rintro rfl
      unfold World.cell? at h1
      simp only at h1
      rw [show w.heap[b']? = _ from bx] at h1
      rcases hp : p + i with _ | q
      · rw [hp] at h1; simp at h1
      · rw [hp] at h1; simp at h1
    exact (World.cell?_of_block (a := ⟨b', p + i, none⟩) (x.block b' (World.block_lt_of_cell? _ _ h1) (by omega))).trans h1

/-- 's[:h]', 's[l:]', 's[:h:h]' inside a fence; the text is told at a world w0. -/
theorem wpListIn_subH {F : Fence} {nn : Nat} {P : Program} {ops : Array Oper} {rest : List Oper} {o : Oper} {a : Act} {Q : Exit → Act → World → Prop} {w : World}
    (hgu : o.guard = none) (t : TypeId) (x y : Operand) (hop : o.op = Op.slice t x none (some y) none)
    (e : TypeId) (ht : P.underlying t = some (.slice e)) {z : Value} {by_ : Nat} (hinfo : (P.info? e).map (fun i => (i.zero, i.size, i.bytes)) = some (some z, 1, by_))
    (v : Value) (L : List UInt8) (w0 : World) (hx : a.eval x = v) (hb : Bs w0 v L) (k : IntKind) (I : Int) (hy : a.eval y = .int k I) (h : Nat) (hI : I = (h : Int)) (hh : h ≤ L.length)
    (hK : ∀ v', Bs w0 v' (L.take h) → wpListIn F nn P ops Q rest (a.put o.dst v') w) : wpListIn F nn P ops Q (o :: rest) a w := by
  refine wpListIn_plain hgu fun K hK' => ?_
  obtain ⟨ad, c, rfl, h1, h2⟩ := hb.shape
  subst hI
  have hrun := run_sub_h (P := P) (w := w) ht hinfo ad L.length c k h (by omega)
  have e1 : part L 0 h = L.take h := by simp [part]
  unfold Oper.wpIn
  refine ⟨?_, ?_⟩
  · simp [Oper.about, hop]
  · rw [Oper.semAt_plain F _ _ (by rw [hop]; intro c hc'; cases hc')]
    simp [execOp, hop, hx, hy, hrun, Result.andThen]
    exact hK' _ _ (hK _ (e1 ▸ hb.sliced (Nat.zero_le _) hh (by omega) (Nat.le_refl _)))
theorem wpListIn_subL {F : Fence} {nn : Nat} {P : Program} {ops : Array Oper} {rest : List Oper} {o : Oper} {a : Act} {Q : Exit → Act → World → Prop} {w : World}
    (hgu : o.guard = none) (t : TypeId) (x y : Operand) (hop : o.op = Op.slice t x (some y) none none)
    (e : TypeId) (ht : P.underlying t = some (.slice e)) {z : Value} {by_ : Nat} (hinfo : (P.info? e).map (fun i => (i.zero, i.size, i.bytes)) = some (some z, 1, by_))
    (v : Value) (L : List UInt8) (w0 : World) (hx : a.eval x = v) (hb : Bs w0 v L) (k : IntKind) (I : Int) (hy : a.eval y = .int k I) (l : Nat) (hI : I = (l : Int)) (hl : l ≤ L.length)
    (hK : ∀ v', Bs w0 v' (L.drop l) → wpListIn F nn P ops Q rest (a.put o.dst v') w) : wpListIn F nn P ops Q (o :: rest) a w := by
  refine wpListIn_plain hgu fun K hK' => ?_
  obtain ⟨ad, c, rfl, h1, h2⟩ := hb.shape
  subst hI
  have hrun := run_sub_l (P := P) (w := w) ht hinfo ad L.length c k l hl
  have e1 : part L l L.length = L.drop l := by simp [part]
  unfold Oper.wpIn
  refine ⟨?_, ?_⟩
  · simp [Oper.about, hop]
  · rw [Oper.semAt_plain F _ _ (by rw [hop]; intro c hc'; cases hc')]
    simp [execOp, hop, hx, hy, hrun, Result.andThen]
    exact hK' _ _ (hK _ (e1 ▸ hb.sliced hl (Nat.le_refl _) h1 (Nat.le_refl _)))

theorem run_sub_hm {P : Program} {w : World} {t e : TypeId} (ht : P.underlying t = some (.slice e)) {z : Value} {by_ : Nat} (hinfo : (P.info? e).map (fun i => (i.zero, i.size, i.bytes)) = some (some z, 1, by_))
    (a : Option Addr) (n c : Nat) (k k' : IntKind) (h m : Nat) (hh : h ≤ m) (hm : m ≤ c) : (Instr.sliceAt t (.slice a n c) none (some (.int k (h : Int))) (some (.int k' (m : Int)))).run P w = .ok (sliced a 0 h m 1) w := by
  rw [run_sliceAt_slice w t _ _ _ _ (elem_of ht), run_slice_hm w t a n c (elem_of ht) k k' _ _ (by omega) (by omega) (by omega), elem_eq ht, sizeOf_one hinfo]
  simp [Result.andThen]

theorem wpListIn_subHM {F : Fence} {nn : Nat} {P : Program} {ops : Array Oper} {rest : List Oper} {o : Oper} {a : Act} {Q : Exit → Act → World → Prop} {w : World}
    (hgu : o.guard = none) (t : TypeId) (x y y' : Operand) (hop : o.op = Op.slice t x none (some y) (some y'))
    (e : TypeId) (ht : P.underlying t = some (.slice e)) {z : Value} {by_ : Nat} (hinfo : (P.info? e).map (fun i => (i.zero, i.size, i.bytes)) = some (some z, 1, by_))
    (v : Value) (L : List UInt8) (w0 : World) (hx : a.eval x = v) (hb : Bs w0 v L) (k k' : IntKind) (I : Int) (hy : a.eval y = .int k I) (hy' : a.eval y' = .int k' I) (hI : I = (L.length : Int))
    (hK : ∀ v', Bs w0 v' L → wpListIn F nn P ops Q rest (a.put o.dst v') w) : wpListIn F nn P ops Q (o :: rest) a w := by
  refine wpListIn_plain hgu fun K hK' => ?_
  obtain ⟨ad, c, rfl, h1, h2⟩ := hb.shape
  subst hI
  have hrun := run_sub_hm (P := P) (w := w) ht hinfo ad L.length c k k' L.length L.length (Nat.le_refl _) h1
  have e1 : part L 0 L.length = L := by simp [part]
  unfold Oper.wpIn
  refine ⟨?_, ?_⟩
  · simp [Oper.about, hop]
  · rw [Oper.semAt_plain F _ _ (by rw [hop]; intro c hc'; cases hc')]
    simp [execOp, hop, hx, hy, hy', hrun, Result.andThen]
    refine hK' _ _ (hK _ ?_)
    have := hb.sliced (Nat.zero_le _) (Nat.le_refl _) (Nat.le_refl _) h1
    rwa [e1] at this

theorem Fr.below {lo hi : Nat} {a b c : World} (h : Fr lo hi a b) (k : Below a.heap.size b c) : Fr lo hi a c :=
  ⟨k.os.trans h.os, k.tape.trans h.tape, k.output.trans h.output, Nat.le_trans h.size k.size, fun i hi' ho => (k.block i hi').trans (h.block i hi' ho)⟩

attribute [local go_sem] Oper.semAt_some

set_option maxRecDepth 100000 in
set_option maxHeartbeats 4000000 in
theorem iter_Lines (sv : Value) (l : List UInt8) (w : World) (m b1 : Nat) (hb : Bs w sv l) (bx : Boxed w b1 22 sv) (hm : m ≤ b1) (hlim : l.length ≤ 1099511627776) :
    IterOK Try.prog 47 #[.pointer (some ⟨b1, 0, none⟩)] m w.heap.size (l.length + 1) l.length w (linesB l) := by
  intro nn ll J W x0 hE hS hY h0
  refine callsIn_wide.2 ?_
  show Calls Try.prog 47 #[.func (.yield ll) #[] #[], .pointer (some ⟨b1, 0, none⟩)] W _
  obtain ⟨as0, cs0, hsv, _, _⟩ := hb.shape
  subst hsv
  have hlt := bx.lt
  have HE := Lib.hid hE
  have HS := Lib.hid hS
  have HY := Lib.hid hY
  have H0 := Lib.hid h0
  have HB := Lib.hid hb
  have HBX := Lib.hid bx
  have HX0 := Lib.hid x0
  clear hE hS hY h0 hb bx x0
  go_enter Try.func47, Try.ntmps47
  go_wp2_with fail
  go_loopg [3, 4] l.length (fun k _ _ wr => ∃ (D : List (List UInt8)) (r : List UInt8) (v : Value), r.length = k ∧ linesB l = D ++ linesB r ∧ D.length + r.length ≤ l.length ∧ Bs w v r ∧ Boxed wr b1 22 v ∧ Fr b1 (b1 + 1) w wr ∧ J D wr)
  case atStart => exact ⟨[], l, _, rfl, rfl, by simp, HB.out, boxed_ext HBX.out HX0.out, HX0.out.fr _ _, H0.out⟩
  case round =>
    obtain ⟨D, r, v, hk, hl, hd, hbr, hbx, hfr, hJ⟩ := hrel
    have HK := Lib.hid hk
    have HL := Lib.hid hl
    have HFR := Lib.hid hfr
    have HJJ := Lib.hid hJ
    have c0 := hbx.cell
    have z0 := hbx.frozen
    obtain ⟨a, c, hv, hcap, hcm⟩ := hbr.shape
    subst hv
    have HBR := Lib.hid hbr
    have HBX2 := Lib.hid hbx
    clear hk hl hfr hJ hbr hbx
    by_cases hr : r = []
    · subst hr
      go_wp2_with fail
      go_end0
      exact ⟨⟨_, rfl⟩, by have := HL.out; rw [linesB_nil, List.append_nil] at this; rw [this]; exact HJJ.out⟩
    · have hrl : 0 < r.length := List.length_pos_iff.2 hr
      have cI := bytes_IndexByte (.slice a r.length c) r 10 wr (bs_frBox HBR.out HBX.out HFR.out)
      rcases firstB_split 10 r with ⟨e1, hno⟩ | ⟨p, r', e1, hno, e2⟩
      · rw [e1] at cI
        have HNO := Lib.hid hno
        clear hno e1
        go_wp2_with (go_at_call 36; refine cI.mono ?_)
        rintro _ w1 ⟨rfl, rfl⟩
        go_upto_region 6 with fail
        refine (wpIn_wide (n := nn)).1 ?_
        gi_wp2_with (refine wpListIn_subHM rfl 22 _ _ _ rfl 5 Try.underlying22 info_u8' _ r w rfl HBR.out _ _ _ rfl rfl rfl ?_)
        intro v4 b4
        have hf4 : Fr b1 (b1 + 1) w (wr.setCell ⟨b1, 0, none⟩ (.slice none 0 0)) := HFR.out.trans (Fr.setCell (p := ⟨b1, 0, none⟩) (Nat.le_refl _) (Nat.lt_succ_self _) _)
        obtain ⟨fn, tmps, assign, body, hy, hR⟩ := HY.out D v4 _ _ (HS.out _ _ ⟨b1, 0, none⟩ (.slice none 0 0) HJJ.out hm hlt) (bs_frBox b4 HBX.out hf4) (by omega) (by omega)
        clear HY
        gi_wp2
        refine ⟨fun hd => Bool.noConfusion hd, hR.mono ?_⟩
        rintro e W3 ⟨rfl, hJ3, hB3⟩
        have b3 : Boxed W3 b1 22 (.slice none 0 0) := (hB3.block b1 hlt).trans (HBX2.out.set _)
        have f3 := hf4.below hB3
        gi_wp2
        go_wp2_with fail
        go_roundg 0
        case measure => have := HK.out; omega
        case rel => exact ⟨D ++ [r], [], _, rfl, by rw [HL.out, linesB_none HNO.out hr, linesB_nil, List.append_nil], by rw [List.length_append]; simp; omega, Bs.nil w, b3, f3, hJ3⟩
      · rw [e2] at cI
        have HR1 := Lib.hid e1
        have HNO := Lib.hid hno
        have hpl : p.length + 1 + r'.length = r.length := by rw [e1]; simp; omega
        clear e2 e1 hno
        go_wp2_with (go_at_call 36; refine cI.mono ?_)
        rintro _ w1 ⟨rfl, rfl⟩
        go_upto_region 4 with fail
        refine (wpIn_wide (n := nn)).1 ?_
        refine wpIn_region_mono (by kernel_rfl) [12, 13, 14, 15, 16, 17, 18, 19, 3] (by decide) (by kernel_rfl) (by decide) (by simp) (by kernel_rfl) (by kernel_rfl)
          (fun i => match i with | 0 => (fun v _ => v = .slice a r.length c) | 1 => (fun v _ => v = .int .i64 (p.length : Int)) | 2 => (fun v _ => v = .int .i64 ((p.length : Int) + 1)) | 3 => (fun v _ => Bs w v (r.take (p.length + 1))) | 4 => (fun v _ => v = .slice a r.length c) | 5 => (fun v _ => v = .int .i64 (p.length : Int)) | 6 => (fun v _ => v = .int .i64 ((p.length : Int) + 1)) | 7 => (fun v _ => Bs w v (r.drop (p.length + 1))) | 8 => (fun v _ => Bs w v (r.take (p.length + 1))) | _ => fun _ _ => True) ?stable ?steps ?fin
        case stable =>
          intro i v w' w'' h x
          match i, h with
          | 0, h => exact h
          | 1, h => exact h
          | 2, h => exact h
          | 3, h => exact h
          | 4, h => exact h
          | 5, h => exact h
          | 6, h => exact h
          | 7, h => exact h
          | 8, h => exact h
          | _ + 9, _ => trivial
        case steps =>
          refine AllSteps.cons (fun us hus w' x h => ?_) ?_
          · obtain ⟨u0, t0, e0, s0⟩ := len_cons hus; obtain ⟨u1, t1, e1, s1⟩ := len_cons s0; obtain ⟨u2, t2, e2, s2⟩ := len_cons s1; obtain ⟨u3, t3, e3, s3⟩ := len_cons s2; obtain ⟨u4, t4, e4, s4⟩ := len_cons s3; obtain ⟨u5, t5, e5, s5⟩ := len_cons s4; obtain ⟨u6, t6, e6, s6⟩ := len_cons s5; obtain ⟨u7, t7, e7, s7⟩ := len_cons s6; obtain ⟨u8, t8, e8, s8⟩ := len_cons s7
            obtain rfl := len_nil s8
            clear hus s0 s1 s2 s3 s4 s5 s6 s7 s8
            subst e8 e7 e6 e5 e4 e3 e2 e1 e0
            clear h
            simp only [over, Act.put, List.setIfInBounds_toArray, List.set_cons_zero, List.set_cons_succ]
            have hc := (boxed_ext HBX2.out x).cell
            gi_wp2
            exact postK_normal ⟨_, rfl, rfl, Ext.refl _⟩
          refine AllSteps.cons (fun us hus w' x h => ?_) ?_
          · obtain ⟨u0, t0, e0, s0⟩ := len_cons hus; obtain ⟨u1, t1, e1, s1⟩ := len_cons s0; obtain ⟨u2, t2, e2, s2⟩ := len_cons s1; obtain ⟨u3, t3, e3, s3⟩ := len_cons s2; obtain ⟨u4, t4, e4, s4⟩ := len_cons s3; obtain ⟨u5, t5, e5, s5⟩ := len_cons s4; obtain ⟨u6, t6, e6, s6⟩ := len_cons s5; obtain ⟨u7, t7, e7, s7⟩ := len_cons s6; obtain ⟨u8, t8, e8, s8⟩ := len_cons s7
            obtain rfl := len_nil s8
            clear hus s0 s1 s2 s3 s4 s5 s6 s7 s8
            subst e8 e7 e6 e5 e4 e3 e2 e1 e0
            clear h
            simp only [over, Act.put, List.setIfInBounds_toArray, List.set_cons_zero, List.set_cons_succ]
            gi_wp2
            exact postK_normal ⟨_, rfl, rfl, Ext.refl _⟩
          refine AllSteps.cons (fun us hus w' x h => ?_) ?_
          · obtain ⟨u0, t0, e0, s0⟩ := len_cons hus; obtain ⟨u1, t1, e1, s1⟩ := len_cons s0; obtain ⟨u2, t2, e2, s2⟩ := len_cons s1; obtain ⟨u3, t3, e3, s3⟩ := len_cons s2; obtain ⟨u4, t4, e4, s4⟩ := len_cons s3; obtain ⟨u5, t5, e5, s5⟩ := len_cons s4; obtain ⟨u6, t6, e6, s6⟩ := len_cons s5; obtain ⟨u7, t7, e7, s7⟩ := len_cons s6; obtain ⟨u8, t8, e8, s8⟩ := len_cons s7
            obtain rfl := len_nil s8
            clear hus s0 s1 s2 s3 s4 s5 s6 s7 s8
            subst e8 e7 e6 e5 e4 e3 e2 e1 e0
            have h1 : u1 = .int .i64 (p.length : Int) := h 1 (by kernel_rfl)
            clear h
            subst h1
            simp only [over, Act.put, List.setIfInBounds_toArray, List.set_cons_zero, List.set_cons_succ]
            gi_wp2
            exact postK_normal ⟨_, rfl, rfl, Ext.refl _⟩
          refine AllSteps.cons (fun us hus w' x h => ?_) ?_
          · obtain ⟨u0, t0, e0, s0⟩ := len_cons hus; obtain ⟨u1, t1, e1, s1⟩ := len_cons s0; obtain ⟨u2, t2, e2, s2⟩ := len_cons s1; obtain ⟨u3, t3, e3, s3⟩ := len_cons s2; obtain ⟨u4, t4, e4, s4⟩ := len_cons s3; obtain ⟨u5, t5, e5, s5⟩ := len_cons s4; obtain ⟨u6, t6, e6, s6⟩ := len_cons s5; obtain ⟨u7, t7, e7, s7⟩ := len_cons s6; obtain ⟨u8, t8, e8, s8⟩ := len_cons s7
            obtain rfl := len_nil s8
            clear hus s0 s1 s2 s3 s4 s5 s6 s7 s8
            subst e8 e7 e6 e5 e4 e3 e2 e1 e0
            have h0 : u0 = .slice a r.length c := h 0 (by kernel_rfl)
            have h2 : u2 = .int .i64 ((p.length : Int) + 1) := h 2 (by kernel_rfl)
            clear h
            subst h0 h2
            simp only [over, Act.put, List.setIfInBounds_toArray, List.set_cons_zero, List.set_cons_succ]
            gi_wp2_with (refine wpListIn_subH rfl 22 _ _ rfl 5 Try.underlying22 info_u8' _ r w rfl HBR.out _ _ rfl (p.length + 1) (by go_num) (by omega) ?_)
            intro v4 b4
            gi_wp2
            exact postK_normal ⟨_, rfl, b4, Ext.refl _⟩
          refine AllSteps.cons (fun us hus w' x h => ?_) ?_
          · obtain ⟨u0, t0, e0, s0⟩ := len_cons hus; obtain ⟨u1, t1, e1, s1⟩ := len_cons s0; obtain ⟨u2, t2, e2, s2⟩ := len_cons s1; obtain ⟨u3, t3, e3, s3⟩ := len_cons s2; obtain ⟨u4, t4, e4, s4⟩ := len_cons s3; obtain ⟨u5, t5, e5, s5⟩ := len_cons s4; obtain ⟨u6, t6, e6, s6⟩ := len_cons s5; obtain ⟨u7, t7, e7, s7⟩ := len_cons s6; obtain ⟨u8, t8, e8, s8⟩ := len_cons s7
            obtain rfl := len_nil s8
            clear hus s0 s1 s2 s3 s4 s5 s6 s7 s8
            subst e8 e7 e6 e5 e4 e3 e2 e1 e0
            clear h
            simp only [over, Act.put, List.setIfInBounds_toArray, List.set_cons_zero, List.set_cons_succ]
            have hc := (boxed_ext HBX2.out x).cell
            gi_wp2
            exact postK_normal ⟨_, rfl, rfl, Ext.refl _⟩
          refine AllSteps.cons (fun us hus w' x h => ?_) ?_
          · obtain ⟨u0, t0, e0, s0⟩ := len_cons hus; obtain ⟨u1, t1, e1, s1⟩ := len_cons s0; obtain ⟨u2, t2, e2, s2⟩ := len_cons s1; obtain ⟨u3, t3, e3, s3⟩ := len_cons s2; obtain ⟨u4, t4, e4, s4⟩ := len_cons s3; obtain ⟨u5, t5, e5, s5⟩ := len_cons s4; obtain ⟨u6, t6, e6, s6⟩ := len_cons s5; obtain ⟨u7, t7, e7, s7⟩ := len_cons s6; obtain ⟨u8, t8, e8, s8⟩ := len_cons s7
            obtain rfl := len_nil s8
            clear hus s0 s1 s2 s3 s4 s5 s6 s7 s8
            subst e8 e7 e6 e5 e4 e3 e2 e1 e0
            clear h
            simp only [over, Act.put, List.setIfInBounds_toArray, List.set_cons_zero, List.set_cons_succ]
            gi_wp2
            exact postK_normal ⟨_, rfl, rfl, Ext.refl _⟩
          refine AllSteps.cons (fun us hus w' x h => ?_) ?_
          · obtain ⟨u0, t0, e0, s0⟩ := len_cons hus; obtain ⟨u1, t1, e1, s1⟩ := len_cons s0; obtain ⟨u2, t2, e2, s2⟩ := len_cons s1; obtain ⟨u3, t3, e3, s3⟩ := len_cons s2; obtain ⟨u4, t4, e4, s4⟩ := len_cons s3; obtain ⟨u5, t5, e5, s5⟩ := len_cons s4; obtain ⟨u6, t6, e6, s6⟩ := len_cons s5; obtain ⟨u7, t7, e7, s7⟩ := len_cons s6; obtain ⟨u8, t8, e8, s8⟩ := len_cons s7
            obtain rfl := len_nil s8
            clear hus s0 s1 s2 s3 s4 s5 s6 s7 s8
            subst e8 e7 e6 e5 e4 e3 e2 e1 e0
            have h5 : u5 = .int .i64 (p.length : Int) := h 5 (by kernel_rfl)
            clear h
            subst h5
            simp only [over, Act.put, List.setIfInBounds_toArray, List.set_cons_zero, List.set_cons_succ]
            gi_wp2
            exact postK_normal ⟨_, rfl, rfl, Ext.refl _⟩
          refine AllSteps.cons (fun us hus w' x h => ?_) ?_
          · obtain ⟨u0, t0, e0, s0⟩ := len_cons hus; obtain ⟨u1, t1, e1, s1⟩ := len_cons s0; obtain ⟨u2, t2, e2, s2⟩ := len_cons s1; obtain ⟨u3, t3, e3, s3⟩ := len_cons s2; obtain ⟨u4, t4, e4, s4⟩ := len_cons s3; obtain ⟨u5, t5, e5, s5⟩ := len_cons s4; obtain ⟨u6, t6, e6, s6⟩ := len_cons s5; obtain ⟨u7, t7, e7, s7⟩ := len_cons s6; obtain ⟨u8, t8, e8, s8⟩ := len_cons s7
            obtain rfl := len_nil s8
            clear hus s0 s1 s2 s3 s4 s5 s6 s7 s8
            subst e8 e7 e6 e5 e4 e3 e2 e1 e0
            have h4 : u4 = .slice a r.length c := h 4 (by kernel_rfl)
            have h6 : u6 = .int .i64 ((p.length : Int) + 1) := h 6 (by kernel_rfl)
            clear h
            subst h4 h6
            simp only [over, Act.put, List.setIfInBounds_toArray, List.set_cons_zero, List.set_cons_succ]
            gi_wp2_with (refine wpListIn_subL rfl 22 _ _ rfl 5 Try.underlying22 info_u8' _ r w rfl HBR.out _ _ rfl (p.length + 1) (by go_num) (by omega) ?_)
            intro v4 b4
            gi_wp2
            exact postK_normal ⟨_, rfl, b4, Ext.refl _⟩
          refine AllSteps.cons (fun us hus w' x h => ?_) ?_
          · obtain ⟨u0, t0, e0, s0⟩ := len_cons hus; obtain ⟨u1, t1, e1, s1⟩ := len_cons s0; obtain ⟨u2, t2, e2, s2⟩ := len_cons s1; obtain ⟨u3, t3, e3, s3⟩ := len_cons s2; obtain ⟨u4, t4, e4, s4⟩ := len_cons s3; obtain ⟨u5, t5, e5, s5⟩ := len_cons s4; obtain ⟨u6, t6, e6, s6⟩ := len_cons s5; obtain ⟨u7, t7, e7, s7⟩ := len_cons s6; obtain ⟨u8, t8, e8, s8⟩ := len_cons s7
            obtain rfl := len_nil s8
            clear hus s0 s1 s2 s3 s4 s5 s6 s7 s8
            subst e8 e7 e6 e5 e4 e3 e2 e1 e0
            have h3 : Bs w u3 (r.take (p.length + 1)) := h 3 (by kernel_rfl)
            clear h
            simp only [over, Act.put, List.setIfInBounds_toArray, List.set_cons_zero, List.set_cons_succ]
            gi_wp2
            exact postK_normal ⟨_, rfl, h3, Ext.refl _⟩
          exact AllSteps.nil
        case fin =>
          intro us hus w' xx h
          obtain ⟨u0, t0, e0, s0⟩ := len_cons hus; obtain ⟨u1, t1, e1, s1⟩ := len_cons s0; obtain ⟨u2, t2, e2, s2⟩ := len_cons s1; obtain ⟨u3, t3, e3, s3⟩ := len_cons s2; obtain ⟨u4, t4, e4, s4⟩ := len_cons s3; obtain ⟨u5, t5, e5, s5⟩ := len_cons s4; obtain ⟨u6, t6, e6, s6⟩ := len_cons s5; obtain ⟨u7, t7, e7, s7⟩ := len_cons s6; obtain ⟨u8, t8, e8, s8⟩ := len_cons s7
          obtain rfl := len_nil s8
          clear hus s0 s1 s2 s3 s4 s5 s6 s7 s8
          subst e8 e7 e6 e5 e4 e3 e2 e1 e0
          have h7 : Bs w u7 (r.drop (p.length + 1)) := h 7 (by decide)
          have h8 : Bs w u8 (r.take (p.length + 1)) := h 8 (by decide)
          clear h
          have e7 : r.drop (p.length + 1) = r' := by
            rw [HR1.out, show p ++ 10 :: r' = (p ++ [10]) ++ r' by simp, List.drop_left' (by simp)]
          have e8 : r.take (p.length + 1) = p ++ [10] := by
            rw [HR1.out, show p ++ 10 :: r' = (p ++ [10]) ++ r' by simp, List.take_left' (by simp)]
          rw [e7] at h7
          rw [e8] at h8
          clear e7 e8
          obtain ⟨T, hT⟩ : ∃ T, p ++ [10] = T := ⟨_, rfl⟩
          have HTL := Lib.hid (show T.length = p.length + 1 by rw [← hT]; simp)
          have hTl : T.length ≤ l.length := by have := HTL.out; omega
          rw [hT] at h8
          have HT := Lib.hid hT
          clear hT
          obtain ⟨a7, c7, e7, _⟩ := h7.shape
          subst e7
          obtain ⟨a8, c8, e8, _⟩ := h8.shape
          subst e8
          have H7 := Lib.hid h7
          have H8 := Lib.hid h8
          clear h7 h8
          have bX := boxed_ext HBX2.out xx
          have cX := bX.cell
          have fX := bX.frozen
          have HBX3 := Lib.hid bX
          clear bX
          simp only [over, Act.put, List.setIfInBounds_toArray, List.set_cons_zero, List.set_cons_succ, List.length_cons, List.length_nil, Nat.zero_add, Nat.reduceAdd, List.drop_succ_cons, List.drop_zero]
          gi_wp2_with fail
          go_upto_region 6 with fail
          refine (wpIn_wide (n := nn)).1 ?_
          gi_wp2_with (refine wpListIn_subHM rfl 22 _ _ _ rfl 5 Try.underlying22 info_u8' _ T w rfl H8.out _ _ _ rfl rfl rfl ?_)
          intro v4 b4
          have hf4 : Fr b1 (b1 + 1) w (w'.setCell ⟨b1, 0, none⟩ (.slice a7 r'.length c7)) := (HFR.out.trans (xx.fr _ _)).trans (Fr.setCell (p := ⟨b1, 0, none⟩) (Nat.le_refl _) (Nat.lt_succ_self _) _)
          obtain ⟨fn, tmps, assign, body, hy, hR⟩ := HY.out D v4 _ _ (HS.out _ _ ⟨b1, 0, none⟩ (.slice a7 r'.length c7) (HE.out _ _ _ HJJ.out xx) hm hlt) (bs_frBox b4 HBX.out hf4) (by omega) (by omega)
          clear HY
          gi_wp2
          refine ⟨fun hd => Bool.noConfusion hd, hR.mono ?_⟩
          rintro e W3 ⟨rfl, hJ3, hB3⟩
          have b3 : Boxed W3 b1 22 (.slice a7 r'.length c7) := (hB3.block b1 hlt).trans (HBX3.out.set _)
          have f3 := hf4.below hB3
          gi_wp2
          go_wp2_with fail
          go_roundg r'.length
          case measure => have := HK.out; omega
          case rel => exact ⟨D ++ [T], r', _, rfl, by rw [HL.out, HR1.out, linesB_cut HNO.out, HT.out, List.append_assoc]; rfl, by rw [List.length_append, List.length_singleton]; have := HTL.out; omega, H7.out, b3, f3, hJ3⟩

/-- A call's answer: the iterator over one captured variable. -/
def RetSeq1 (gf : Nat) (t : TypeId) (w : World) (u : Value) (e : Ending) (w' : World) : Prop := ∃ b1, e = .returned (.func (.func gf) #[] #[.pointer (some ⟨b1, 0, none⟩)]) ∧ Ext w w' ∧ w.heap.size ≤ b1 ∧ Boxed w' b1 t u

set_option maxRecDepth 100000 in
theorem bytes_Lines (a : Option Addr) (k c : Nat) (w : World) :
    Calls Try.prog 34 #[.slice a k c] w (RetSeq1 47 22 w (.slice a k c)) := by
  go_enter Try.func34, Try.ntmps34
  go_wp2_with fail
  go_ret
  exact ⟨_, rfl, Ext.alloc _ _, Nat.le_refl _, Boxed.new _ _ _⟩

set_option maxRecDepth 100000 in
theorem impl_Lines (sv : Value) (l : List UInt8) (w : World) (hb : Bs w sv l) (hlim : l.length ≤ 1099511627776) :
    Calls Try.prog 13 #[sv] w (RetOwnL w (linesB l)) := by
  obtain ⟨a', c', hsv, hcap, hcm⟩ := hb.shape
  subst hsv
  go_enter Try.func13, Try.ntmps13
  go_wp2_with (go_at_call 34; refine (bytes_Lines _ _ _ _).mono ?_)
  rintro _ w1 ⟨b1, rfl, X, hm, bx⟩
  have HC := iter_Lines _ l w1 w.heap.size b1 (hb.ext X) bx hm hlim
  have HG := impl_gathered 47 _ (fun _ _ => rfl) w1 w.heap.size _ _ X.size _ HC (by omega) (by omega)
  clear HC
  go_wp2_with (go_at_call 33; refine HG.mono ?_)
  rintro _ w2 ⟨v2, rfl, o2, B2⟩
  go_wp2_with fail
  go_ret
  exact ⟨_, rfl, o2.mono X.size (Nat.le_refl _), ⟨X.below.trans B2⟩⟩
end Go.Proofs.Ytlgoeiofachohaa
