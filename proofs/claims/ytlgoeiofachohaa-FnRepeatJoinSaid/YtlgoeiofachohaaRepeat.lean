/- bytes.Repeat and what stands on it. Printed by repeat.py. -/
import Derived.Test.YtlgoeiofachohaaMonoG
import Derived.Test.YtlgoeiofachohaaGathF
import Derived.Test.YtlgoeiofachohaaWrapA
import Derived.Test.YtlgoeiofachohaaLayM
import Derived.Shelf.Bits.Mul64
import Derived.Lib.MakeNoZero
import Derived.Laws.CopyOwn
import Derived.Defers
import Derived.Recover
import Derived.Deep.DeepCutAuto
namespace Go.Proofs.Ytlgoeiofachohaa
open Go.RowKit

/-- A text so many times. -/
def repL (l : List UInt8) (c : Nat) : List UInt8 := (List.replicate c l).flatten
theorem repL_zero (l : List UInt8) : repL l 0 = [] := rfl
theorem repL_add (l : List UInt8) (a b : Nat) : repL l (a + b) = repL l a ++ repL l b := by
  unfold repL
  rw [← List.replicate_append_replicate, List.flatten_append]
theorem repL_one (l : List UInt8) : repL l 1 = l := by simp [repL]
theorem repL_length (l : List UInt8) (c : Nat) : (repL l c).length = c * l.length := by
  induction c with
  | zero => simp [repL]
  | succ c ih => rw [repL_add, List.length_append, ih, repL_one, Nat.add_mul, Nat.one_mul]
theorem repL_nil (c : Nat) : repL [] c = [] := List.eq_nil_of_length_eq_zero (by rw [repL_length]; simp)

theorem info_u8z : (Try.prog.info? 5).map (·.size) = some 1 := by kernel_rfl

theorem wpListIn_copy_own {F : Fence} {nn : Nat} {P : Program} {w : World} {ops : Array Oper} {rest : List Oper} {o : Oper} {a : Act} {Q : Exit → Act → World → Prop} (hgd : o.guard = none) (d s : Operand) (dT sT : TypeId)
    (ho : o.op = .call { callee := .builtin .copy, args := #[d, s], argTypes := #[dT, sT] }) (elem : TypeId) (hu : P.underlying dT = some (.slice elem)) (hsz : (P.info? elem).map (·.size) = some 1)
    (g off dLen dCap : Nat) (ad : Addr) (sLen sCap : Nat) (hd : a.eval d = .slice (some ⟨g, off, none⟩) dLen dCap) (hs : a.eval s = .slice (some ad) sLen sCap)
    (cur : Array Value) (t : TypeId) (hg : w.heap[g]? = some (.cells cur t (0, 0))) (cs : List Value) (hn : cs.length = Nat.min sLen dLen)
    (hsrc : ∀ j v, cs[j]? = some v → w.cell? (ad.add j) = some v) (hfit : off + cs.length ≤ cur.size) (h1 : ∀ v ∈ cs, v.oneCell' = true)
    (h : wpListIn F nn P ops Q rest (a.put o.dst (goInt cs.length)) (w.setRow g (cur.toList.take off ++ cs ++ cur.toList.drop (off + cs.length)).toArray)) : wpListIn F nn P ops Q (o :: rest) a w := by
  refine wpListIn_plain hgd fun K hK => ?_
  have hrun := run_copy_row (P := P) w dT sT o.type elem g off dLen dCap ad sLen sCap cur t cs hu hsz hg hn hsrc hfit h1
  unfold Oper.wpIn
  refine ⟨?_, ?_⟩
  · simp [Oper.about, ho, resolve, Target.leads, Sem.run_pure]
  · rw [Oper.semAt_plain F _ _ (by rw [ho]; intro c hc'; cases hc')]
    simp [execOp, ho, resolve, invoke, builtin, hd, hs, hrun, Result.andThen]
    exact hK _ _ (by simpa using h)

theorem bits_Mul (x y : Nat) (hx : x < 18446744073709551616) (hy : y < 18446744073709551616) (w : World) :
    Calls Try.prog 52 #[.int .u64 x, .int .u64 y] w fun e w' => e = .returned (.tuple #[.int .u64 ((x * y / 18446744073709551616 : Nat) : Int), .int .u64 ((x * y % 18446744073709551616 : Nat) : Int)]) ∧ w' = w :=
  Any.bits_Mul Try.lays212 x y hx hy w

attribute [local go_sem] Oper.semAt_some

set_option maxRecDepth 100000 in
set_option maxHeartbeats 8000000 in
theorem bytes_Repeat (sv : Value) (l : List UInt8) (c : Nat) (w : World) (hb : Bs w sv l) (hc : c ≤ 9223372036854775807) (hl : l.length ≤ 1099511627776) (hn : c * l.length ≤ 1099511627776) :
    Calls Try.prog 44 #[sv, .int .i64 (c : Int)] w (RetOwn w (repL l c)) := by
  obtain ⟨sa, sc, hsv, hcap, hcm⟩ := hb.shape
  subst hsv
  by_cases hc0 : c = 0
  case pos =>
    subst hc0
    have b0 := Buf.empty w.heap.size 5 w (Nat.le_refl _)
    go_enter Try.func44, Try.ntmps44
    go_wp2_with fail
    go_ret
    exact ⟨_, rfl, b0.own, Ext.alloc _ _⟩
  have hz1 : ((c : Int) == 0) = false := by simp; omega
  have cM := bits_Mul l.length c (by omega) (by omega) w
  have hmul : l.length * c ≤ 1099511627776 := by rw [Nat.mul_comm]; exact hn
  rw [show l.length * c / 18446744073709551616 = 0 from Nat.div_eq_of_lt (by omega), show l.length * c % 18446744073709551616 = l.length * c from Nat.mod_eq_of_lt (by omega)] at cM
  obtain ⟨n, hnn⟩ : ∃ n, l.length * c = n := ⟨_, rfl⟩
  rw [hnn] at cM hmul
  by_cases hl0 : l = []
  case pos =>
    subst hl0
    have b0 := Buf.empty w.heap.size 5 w (Nat.le_refl _)
    obtain rfl : n = 0 := by rw [← hnn]; simp
    clear hnn
    go_enter Try.func44, Try.ntmps44
    go_wp2_with (go_at_call 52; refine cM.mono ?_; rintro _ _ ⟨rfl, rfl⟩)
    go_ret
    exact ⟨_, rfl, by rw [repL_nil]; exact b0.own, Ext.alloc _ _⟩
  have hlp : 0 < l.length := List.length_pos_iff.2 hl0
  have hz2 : ((l.length : Int) == 0) = false := by simp; exact hl0
  have hn0 : 0 < n := by rw [← hnn]; exact Nat.mul_pos hlp (by omega)
  have hcase : ∃ q cm : Nat, 1 ≤ q ∧ cm = q * l.length ∧ ((¬ 8192 < n ∧ cm = n) ∨ (8192 < n ∧ ∃ d : Nat, (8192 : Int).tdiv (l.length : Int) = (d : Int) ∧ (d : Int) * (l.length : Int) = (cm : Int) ∧ 0 < cm ∧ cm ≤ 8192 ∧ ((cm : Int) == 0) = false ∧ d ≤ 8192) ∨ (8192 < n ∧ (8192 : Int).tdiv (l.length : Int) = 0 ∧ cm = l.length)) := by
    by_cases h8 : 8192 < n
    · by_cases hL : l.length ≤ 8192
      · have hd : 1 ≤ 8192 / l.length := (Nat.le_div_iff_mul_le hlp).2 (by omega)
        refine ⟨8192 / l.length, 8192 / l.length * l.length, hd, rfl, .inr (.inl ⟨h8, 8192 / l.length, ?_, ?_, ?_, ?_, ?_, Nat.div_le_self _ _⟩)⟩
        · rw [show (8192 : Int) = ((8192 : Nat) : Int) from rfl, ← Int.ofNat_tdiv]
        · simp
        · exact Nat.mul_pos hd hlp
        · exact Nat.div_mul_le_self _ _
        · have : 0 < 8192 / l.length * l.length := Nat.mul_pos hd hlp
          generalize 8192 / l.length * l.length = z at this
          simp; omega
      · refine ⟨1, l.length, Nat.le_refl _, by simp, .inr (.inr ⟨h8, ?_, rfl⟩)⟩
        rw [show (8192 : Int) = ((8192 : Nat) : Int) from rfl, ← Int.ofNat_tdiv, Nat.div_eq_of_lt (by omega)]
        rfl
    · exact ⟨c, n, by omega, by rw [← hnn, Nat.mul_comm], .inl ⟨h8, rfl⟩⟩
  obtain ⟨q, cm, hq, hcm2, hcase⟩ := hcase
  have HQ := Lib.hid hcm2
  have HNN := Lib.hid hnn
  have HB := Lib.hid hb
  obtain ⟨cells, hrun, hge, hle⟩ := Lib.run_makeNoZero (P := Try.prog) w #[3] 22 5 Try.underlying22 n (by omega)
  have hcall := run_callFunc_extern Try.func49 (by kernel_rfl) (by kernel_rfl) (by kernel_rfl) (e := Extern.BytealgMakeNoZero.makeNoZero #[3] #[22]) (by kernel_rfl) #[.int .i64 (n : Int)] w
  rw [hrun] at hcall
  have hsm : cells.size ≤ maxLen := hle (by unfold maxLen; omega)
  have hsm2 : cells.size ≤ 9223372036854775807 := by unfold maxLen at hsm; omega
  have hn9 : ¬ (9223372036854775807 : Int) < (n : Int) := by omega
  have hc9 : ¬ (c : Int) < 0 := by omega
  obtain ⟨g, hg⟩ : ∃ g, w.heap.size = g := ⟨_, rfl⟩
  obtain ⟨w2, hw2⟩ : ∃ w2, w.drew.drew.alloc (.cells cells 5) = w2 := ⟨_, rfl⟩
  have hg2 : w2.heap[g]? = some (.cells cells 5 (0, 0)) := by rw [← hw2, ← hg]; exact heap_alloc_new w.drew.drew _
  have x2 : Ext w w2 := by rw [← hw2]; exact ((Ext.drew w).trans (Ext.drew _)).trans (Ext.alloc _ _)
  rw [hw2, hg] at hcall
  have HG := Lib.hid hg
  clear hnn hcm2 hrun hle hw2 hg
  obtain ⟨tl0, htl0⟩ : ∃ tl0, cells.toList.drop l.length = tl0 := ⟨_, rfl⟩
  have hLn : l.length ≤ n := by have := HNN.out; have h2 : l.length * 1 ≤ l.length * c := Nat.mul_le_mul_left _ (by omega); omega
  have hcur0 : (cells.toList.take 0 ++ bcells l ++ cells.toList.drop (0 + (bcells l).length)).toArray = (bcells (repL l 1) ++ tl0).toArray := by
    rw [repL_one, bcells_length, Nat.zero_add, htl0]; simp
  have HTL0 := Lib.hid (show (bcells (repL l 1) ++ tl0).length = cells.size by rw [List.length_append, bcells_length, repL_one, ← htl0]; simp; omega)
  obtain ⟨sb, so, rfl, hsc⟩ : ∃ b o, sa = some ⟨b, o, none⟩ ∧ ∀ i (h : i < l.length), w.cell? ⟨b, o + i, none⟩ = some (.int .u8 (l[i].toNat : Int)) := by
    obtain ⟨a, c', hv, _, _, h3⟩ := hb
    injection hv with e1 e2 e3
    subst e1
    rcases h3 with h3 | ⟨b, o, ha, hc⟩
    · exact absurd h3 hl0
    · exact ⟨b, o, ha, hc⟩
  have hsrc0 : ∀ j v, (bcells l)[j]? = some v → w2.cell? ((⟨sb, so, none⟩ : Addr).add j) = some v := fun j v hj => by
    obtain ⟨h1, h2⟩ := List.getElem?_eq_some_iff.1 hj
    have hj' : j < l.length := by rwa [bcells_length] at h1
    rw [Addr.add_lit, ← h2]
    have := x2.cell (hsc j hj')
    simpa [bcells] using this
  have HT0 := Lib.hid htl0
  clear hb htl0 hsc
  rcases hcase with ⟨h8, hcn⟩ | ⟨h8, d, hdv, hpr, hcm0, hcm8, hcz, hd8⟩ | ⟨h8, hdv, hcl⟩
  · have HQ2 := Lib.hid (show n = q * l.length by rw [← hcn]; exact HQ.out)
    go_enter Try.func44, Try.ntmps44
    go_upto_region 17 with (go_at_call 52; refine cM.mono ?_; rintro _ w1 ⟨rfl, e1⟩; subst w1)
    have hbl : (bcells l).length = l.length := bcells_length l
    go_wp2_with (refine wpList_copy_own rfl _ _ 22 22 rfl 5 Try.underlying22 info_u8z g 0 n n ⟨sb, so, none⟩ l.length sc rfl rfl cells 5 hg2 (bcells l) (by rw [bcells_length]; exact (Nat.min_eq_left hLn).symm) hsrc0 (by rw [bcells_length]; omega) (bcells_one _) ?_)
    clear hbl
    go_loopg [10] (c - 1) (fun k b10 wr => ∃ (j : Nat) (tl : List Value), j + k = c ∧ b10 = .int .i64 ((j * l.length : Nat) : Int) ∧ 1 ≤ j ∧ (bcells (repL l j) ++ tl).length = cells.size ∧ wr.heap[g]? = some (.cells (bcells (repL l j) ++ tl).toArray 5 (0, 0)) ∧ Ext w wr)
    case atStart =>
      refine ⟨1, tl0, by omega, by simp, Nat.le_refl _, HTL0.out, ?_, ⟨below_setRow x2.below (by have := HG.out; omega) _⟩⟩
      rw [repL_one, ← HT0.out]
      exact setRow_heap w2 g _ _ _ _ hg2
    case round =>
      obtain ⟨j, tl, hj, rfl, hj1, htl, hgc, hx⟩ := hrel
      have HJ := Lib.hid hj
      have HX := Lib.hid hx
      have HTL1 := Lib.hid htl
      obtain ⟨bp, hbp⟩ : ∃ bp, j * l.length = bp := ⟨_, rfl⟩
      have HBPJ := Lib.hid hbp
      rw [hbp]
      obtain ⟨cur, hcur⟩ : ∃ cur, bcells (repL l j) ++ tl = cur := ⟨_, rfl⟩
      rw [hcur] at hgc htl
      have HGC := Lib.hid hgc
      have HCUR := Lib.hid hcur
      clear hj hbp hgc hcur hx
      by_cases hlt : j < c
      · have hgk : 0 < gk := by have := HJ.out; omega
        obtain ⟨s, hs⟩ : ∃ s, min (min j q) (c - j) = s := ⟨_, rfl⟩
        have hs1 : 1 ≤ s := by omega
        have hsj : s ≤ j := by omega
        have hsk : s ≤ gk := by have := HJ.out; omega
        have e1 : ∀ a b : Nat, (min a b) * l.length = min (a * l.length) (b * l.length) := fun a b => by
          rcases Nat.le_total a b with h | h
          · rw [Nat.min_eq_left h, Nat.min_eq_left (Nat.mul_le_mul_right _ h)]
          · rw [Nat.min_eq_right h, Nat.min_eq_right (Nat.mul_le_mul_right _ h)]
        obtain ⟨ch, hch⟩ : ∃ ch, min bp n = ch := ⟨_, rfl⟩
        have hchq : (min j q) * l.length = ch := by rw [e1, HBPJ.out, ← HQ2.out, hch]
        have hnb : (c - j) * l.length = n - bp := by rw [Nat.sub_mul, HBPJ.out, Nat.mul_comm c, HNN.out]
        obtain ⟨m, hm⟩ : ∃ m, s * l.length = m := ⟨_, rfl⟩
        have hmm : m = min ch (n - bp) := by rw [← hm, ← hs, e1, hchq, hnb]
        have hbn : bp < n := by
          have h1 : j * l.length < c * l.length := Nat.mul_lt_mul_of_pos_right hlt hlp
          rw [Nat.mul_comm c, HNN.out, HBPJ.out] at h1
          exact h1
        have HLEN := Lib.hid (show (bcells (repL l s)).length = Nat.min ch (n - bp) by rw [bcells_length, repL_length, hm, hmm])
        have hcb : ch ≤ bp := by omega
        have hmb : bp + m ≤ n := by omega
        have HFIT := Lib.hid (show bp + (bcells (repL l s)).length ≤ cur.toArray.size by rw [bcells_length, repL_length, hm]; show bp + m ≤ cur.length; omega)
        have HM := Lib.hid (show goInt (bcells (repL l s)).length = Value.int .i64 (m : Int) by rw [bcells_length, repL_length, hm]; rfl)
        have hpre : repL l j = repL l s ++ repL l (j - s) := by rw [← repL_add, Nat.add_sub_cancel' hsj]
        have HSRC := Lib.hid (show ∀ w' : World, w'.heap[g]? = some (.cells cur.toArray 5 (0, 0)) → ∀ i v, (bcells (repL l s))[i]? = some v → w'.cell? ((⟨g, 0, none⟩ : Addr).add i) = some v by
          intro w' hg' i v hi
          rw [Addr.add_lit, Nat.zero_add]
          unfold World.cell?
          simp only [hg']
          have h1 : i < (bcells (repL l s)).length := (List.getElem?_eq_some_iff.1 hi).1
          have h2 : cur = bcells (repL l s) ++ (bcells (repL l (j - s)) ++ tl) := by rw [← HCUR.out, hpre, bcells_append, List.append_assoc]
          rw [h2]
          simpa [List.getElem?_append_left h1] using hi)
        obtain ⟨tl', htl'⟩ : ∃ tl', tl.drop m = tl' := ⟨_, rfl⟩
        have hbl2 : (bcells (repL l j)).length = bp := by rw [bcells_length, repL_length, HBPJ.out]
        obtain ⟨cur', hcur'⟩ : ∃ cur', bcells (repL l (j + s)) ++ tl' = cur' := ⟨_, rfl⟩
        have HNEW := Lib.hid (show (cur.toArray.toList.take bp ++ bcells (repL l s) ++ cur.toArray.toList.drop (bp + (bcells (repL l s)).length)).toArray = cur'.toArray by
          rw [← hcur', repL_add, bcells_append, bcells_length, repL_length, hm, ← HCUR.out, ← htl']
          congr 1
          show (bcells (repL l j) ++ tl).take bp ++ bcells (repL l s) ++ (bcells (repL l j) ++ tl).drop (bp + m) = _
          rw [List.take_left' hbl2, ← List.drop_drop, List.drop_left' hbl2])
        have HTL := Lib.hid (show (bcells (repL l (j + s)) ++ tl').length = cells.size by
          have h1 := HTL1.out
          rw [List.length_append, bcells_length, repL_length] at h1 ⊢
          rw [← htl', List.length_drop, Nat.add_mul, hm, HBPJ.out]
          rw [HBPJ.out] at h1
          omega)
        have HBP2 := Lib.hid (show (j + s) * l.length = bp + m by rw [Nat.add_mul, HBPJ.out, hm])
        have HC2 := Lib.hid hcur'
        have hbnI : (bp : Int) < (n : Int) := by omega
        have hch2 : min (bp : Int) (n : Int) = (ch : Int) := by omega
        clear hs hch hchq hnb hm hmm e1 hpre hbl2 htl' hcur'
        go_upto_region 20 with fail
        refine (wpIn_wide (n := 1)).1 ?_
        refine wpIn_region_monoG (by kernel_rfl) [67, 68, 69, 70, 71, 72, 73, 74, 75] (by decide) (by kernel_rfl) (by decide) (by simp) (by kernel_rfl) (by kernel_rfl)
          (fun don w' => (don 7 = false → w'.heap[g]? = some (.cells cur.toArray 5 (0, 0))) ∧ (don 7 = true → w'.heap[g]? = some (.cells cur'.toArray 5 (0, 0))) ∧ Ext w w')
          (fun i => match i with | 0 => (fun v _ => v = .int .i64 (bp : Int)) | 1 => (fun v _ => v = .slice (some ⟨g, 0, none⟩) n n) | 2 => (fun v _ => v = .int .i64 (bp : Int)) | 3 => (fun v _ => v = .slice (some ⟨g, bp, none⟩) (n - bp) (n - bp)) | 4 => (fun v _ => v = .slice (some ⟨g, 0, none⟩) n n) | 5 => (fun v _ => v = .int .i64 (ch : Int)) | 6 => (fun v _ => v = .slice (some ⟨g, 0, none⟩) ch n) | 7 => (fun v _ => v = .int .i64 (m : Int)) | 8 => (fun v _ => v = .int .i64 ((bp : Int) + (m : Int))) | _ => fun _ _ => True) ?hI ?steps ?fin
        case hI =>
          exact fun don h => ⟨fun _ => HGC.out, fun h7 => (by rw [h 7] at h7; cases h7), HX.out.trans (Ext.drew wr)⟩
        case steps =>
          refine AllSteps.cons (fun us hus don w' hni hdep hI hK => ?_) ?_
          · obtain ⟨u0, t0, e0, s0⟩ := len_cons hus; obtain ⟨u1, t1, e1, s1⟩ := len_cons s0; obtain ⟨u2, t2, e2, s2⟩ := len_cons s1; obtain ⟨u3, t3, e3, s3⟩ := len_cons s2; obtain ⟨u4, t4, e4, s4⟩ := len_cons s3; obtain ⟨u5, t5, e5, s5⟩ := len_cons s4; obtain ⟨u6, t6, e6, s6⟩ := len_cons s5; obtain ⟨u7, t7, e7, s7⟩ := len_cons s6; obtain ⟨u8, t8, e8, s8⟩ := len_cons s7
            obtain rfl := len_nil s8
            clear hus s0 s1 s2 s3 s4 s5 s6 s7 s8
            subst e8 e7 e6 e5 e4 e3 e2 e1 e0
            simp only [over, Act.put, List.setIfInBounds_toArray, List.set_cons_zero, List.set_cons_succ]
            gi_wp2
            exact postK_normal ⟨_, rfl, rfl, ⟨fun h => hI.1 (by simpa using h), fun h => hI.2.1 (by simpa using h), hI.2.2⟩, hK⟩
          refine AllSteps.cons (fun us hus don w' hni hdep hI hK => ?_) ?_
          · obtain ⟨u0, t0, e0, s0⟩ := len_cons hus; obtain ⟨u1, t1, e1, s1⟩ := len_cons s0; obtain ⟨u2, t2, e2, s2⟩ := len_cons s1; obtain ⟨u3, t3, e3, s3⟩ := len_cons s2; obtain ⟨u4, t4, e4, s4⟩ := len_cons s3; obtain ⟨u5, t5, e5, s5⟩ := len_cons s4; obtain ⟨u6, t6, e6, s6⟩ := len_cons s5; obtain ⟨u7, t7, e7, s7⟩ := len_cons s6; obtain ⟨u8, t8, e8, s8⟩ := len_cons s7
            obtain rfl := len_nil s8
            clear hus s0 s1 s2 s3 s4 s5 s6 s7 s8
            subst e8 e7 e6 e5 e4 e3 e2 e1 e0
            simp only [over, Act.put, List.setIfInBounds_toArray, List.set_cons_zero, List.set_cons_succ]
            gi_wp2
            exact postK_normal ⟨_, rfl, rfl, ⟨fun h => hI.1 (by simpa using h), fun h => hI.2.1 (by simpa using h), hI.2.2⟩, hK⟩
          refine AllSteps.cons (fun us hus don w' hni hdep hI hK => ?_) ?_
          · obtain ⟨u0, t0, e0, s0⟩ := len_cons hus; obtain ⟨u1, t1, e1, s1⟩ := len_cons s0; obtain ⟨u2, t2, e2, s2⟩ := len_cons s1; obtain ⟨u3, t3, e3, s3⟩ := len_cons s2; obtain ⟨u4, t4, e4, s4⟩ := len_cons s3; obtain ⟨u5, t5, e5, s5⟩ := len_cons s4; obtain ⟨u6, t6, e6, s6⟩ := len_cons s5; obtain ⟨u7, t7, e7, s7⟩ := len_cons s6; obtain ⟨u8, t8, e8, s8⟩ := len_cons s7
            obtain rfl := len_nil s8
            clear hus s0 s1 s2 s3 s4 s5 s6 s7 s8
            subst e8 e7 e6 e5 e4 e3 e2 e1 e0
            simp only [over, Act.put, List.setIfInBounds_toArray, List.set_cons_zero, List.set_cons_succ]
            gi_wp2
            exact postK_normal ⟨_, rfl, rfl, ⟨fun h => hI.1 (by simpa using h), fun h => hI.2.1 (by simpa using h), hI.2.2⟩, hK⟩
          refine AllSteps.cons (fun us hus don w' hni hdep hI hK => ?_) ?_
          · obtain ⟨u0, t0, e0, s0⟩ := len_cons hus; obtain ⟨u1, t1, e1, s1⟩ := len_cons s0; obtain ⟨u2, t2, e2, s2⟩ := len_cons s1; obtain ⟨u3, t3, e3, s3⟩ := len_cons s2; obtain ⟨u4, t4, e4, s4⟩ := len_cons s3; obtain ⟨u5, t5, e5, s5⟩ := len_cons s4; obtain ⟨u6, t6, e6, s6⟩ := len_cons s5; obtain ⟨u7, t7, e7, s7⟩ := len_cons s6; obtain ⟨u8, t8, e8, s8⟩ := len_cons s7
            obtain rfl := len_nil s8
            clear hus s0 s1 s2 s3 s4 s5 s6 s7 s8
            subst e8 e7 e6 e5 e4 e3 e2 e1 e0
            have h1 : u1 = .slice (some ⟨g, 0, none⟩) n n := hK 1 (hdep 1 (by kernel_rfl))
            have h2 : u2 = .int .i64 (bp : Int) := hK 2 (hdep 2 (by kernel_rfl))
            subst h1 h2
            simp only [over, Act.put, List.setIfInBounds_toArray, List.set_cons_zero, List.set_cons_succ]
            gi_wp2
            exact postK_normal ⟨_, rfl, (by first | rfl | go_num), ⟨fun h => hI.1 (by simpa using h), fun h => hI.2.1 (by simpa using h), hI.2.2⟩, hK⟩
          refine AllSteps.cons (fun us hus don w' hni hdep hI hK => ?_) ?_
          · obtain ⟨u0, t0, e0, s0⟩ := len_cons hus; obtain ⟨u1, t1, e1, s1⟩ := len_cons s0; obtain ⟨u2, t2, e2, s2⟩ := len_cons s1; obtain ⟨u3, t3, e3, s3⟩ := len_cons s2; obtain ⟨u4, t4, e4, s4⟩ := len_cons s3; obtain ⟨u5, t5, e5, s5⟩ := len_cons s4; obtain ⟨u6, t6, e6, s6⟩ := len_cons s5; obtain ⟨u7, t7, e7, s7⟩ := len_cons s6; obtain ⟨u8, t8, e8, s8⟩ := len_cons s7
            obtain rfl := len_nil s8
            clear hus s0 s1 s2 s3 s4 s5 s6 s7 s8
            subst e8 e7 e6 e5 e4 e3 e2 e1 e0
            simp only [over, Act.put, List.setIfInBounds_toArray, List.set_cons_zero, List.set_cons_succ]
            gi_wp2
            exact postK_normal ⟨_, rfl, rfl, ⟨fun h => hI.1 (by simpa using h), fun h => hI.2.1 (by simpa using h), hI.2.2⟩, hK⟩
          refine AllSteps.cons (fun us hus don w' hni hdep hI hK => ?_) ?_
          · obtain ⟨u0, t0, e0, s0⟩ := len_cons hus; obtain ⟨u1, t1, e1, s1⟩ := len_cons s0; obtain ⟨u2, t2, e2, s2⟩ := len_cons s1; obtain ⟨u3, t3, e3, s3⟩ := len_cons s2; obtain ⟨u4, t4, e4, s4⟩ := len_cons s3; obtain ⟨u5, t5, e5, s5⟩ := len_cons s4; obtain ⟨u6, t6, e6, s6⟩ := len_cons s5; obtain ⟨u7, t7, e7, s7⟩ := len_cons s6; obtain ⟨u8, t8, e8, s8⟩ := len_cons s7
            obtain rfl := len_nil s8
            clear hus s0 s1 s2 s3 s4 s5 s6 s7 s8
            subst e8 e7 e6 e5 e4 e3 e2 e1 e0
            simp only [over, Act.put, List.setIfInBounds_toArray, List.set_cons_zero, List.set_cons_succ]
            gi_wp2
            exact postK_normal ⟨_, rfl, rfl, ⟨fun h => hI.1 (by simpa using h), fun h => hI.2.1 (by simpa using h), hI.2.2⟩, hK⟩
          refine AllSteps.cons (fun us hus don w' hni hdep hI hK => ?_) ?_
          · obtain ⟨u0, t0, e0, s0⟩ := len_cons hus; obtain ⟨u1, t1, e1, s1⟩ := len_cons s0; obtain ⟨u2, t2, e2, s2⟩ := len_cons s1; obtain ⟨u3, t3, e3, s3⟩ := len_cons s2; obtain ⟨u4, t4, e4, s4⟩ := len_cons s3; obtain ⟨u5, t5, e5, s5⟩ := len_cons s4; obtain ⟨u6, t6, e6, s6⟩ := len_cons s5; obtain ⟨u7, t7, e7, s7⟩ := len_cons s6; obtain ⟨u8, t8, e8, s8⟩ := len_cons s7
            obtain rfl := len_nil s8
            clear hus s0 s1 s2 s3 s4 s5 s6 s7 s8
            subst e8 e7 e6 e5 e4 e3 e2 e1 e0
            have h4 : u4 = .slice (some ⟨g, 0, none⟩) n n := hK 4 (hdep 4 (by kernel_rfl))
            have h5 : u5 = .int .i64 (ch : Int) := hK 5 (hdep 5 (by kernel_rfl))
            subst h4 h5
            simp only [over, Act.put, List.setIfInBounds_toArray, List.set_cons_zero, List.set_cons_succ]
            gi_wp2
            exact postK_normal ⟨_, rfl, (by first | rfl | go_num), ⟨fun h => hI.1 (by simpa using h), fun h => hI.2.1 (by simpa using h), hI.2.2⟩, hK⟩
          refine AllSteps.cons (fun us hus don w' hni hdep hI hK => ?_) ?_
          · obtain ⟨u0, t0, e0, s0⟩ := len_cons hus; obtain ⟨u1, t1, e1, s1⟩ := len_cons s0; obtain ⟨u2, t2, e2, s2⟩ := len_cons s1; obtain ⟨u3, t3, e3, s3⟩ := len_cons s2; obtain ⟨u4, t4, e4, s4⟩ := len_cons s3; obtain ⟨u5, t5, e5, s5⟩ := len_cons s4; obtain ⟨u6, t6, e6, s6⟩ := len_cons s5; obtain ⟨u7, t7, e7, s7⟩ := len_cons s6; obtain ⟨u8, t8, e8, s8⟩ := len_cons s7
            obtain rfl := len_nil s8
            clear hus s0 s1 s2 s3 s4 s5 s6 s7 s8
            subst e8 e7 e6 e5 e4 e3 e2 e1 e0
            have h3 : u3 = .slice (some ⟨g, bp, none⟩) (n - bp) (n - bp) := hK 3 (hdep 3 (by kernel_rfl))
            have h6 : u6 = .slice (some ⟨g, 0, none⟩) ch n := hK 6 (hdep 6 (by kernel_rfl))
            subst h3 h6
            simp only [over, Act.put, List.setIfInBounds_toArray, List.set_cons_zero, List.set_cons_succ]
            have hg7 := hI.1 hni
            have hsrc : ∀ j v, (bcells (repL l s))[j]? = some v → w'.cell? ((⟨g, 0, none⟩ : Addr).add j) = some v := fun j v hj => HSRC.out w' hg7 j v hj
            refine wpListIn_copy_own rfl _ _ 22 22 rfl 5 Try.underlying22 info_u8z g bp (n - bp) (n - bp) ⟨g, 0, none⟩ ch n rfl rfl cur.toArray 5 hg7 (bcells (repL l s)) HLEN.out hsrc HFIT.out (bcells_one _) ?_
            rw [HNEW.out]
            refine postK_normal ⟨_, rfl, HM.out, ⟨fun h => (by simp at h), fun _ => setRow_heap w' g _ _ _ _ hg7, ⟨below_setRow hI.2.2.below (by have := HG.out; omega) _⟩⟩, fun j hj => ?_⟩
            match j, hj with
            | 0, hj => exact hK 0 hj
            | 1, hj => exact hK 1 hj
            | 2, hj => exact hK 2 hj
            | 3, hj => exact hK 3 hj
            | 4, hj => exact hK 4 hj
            | 5, hj => exact hK 5 hj
            | 6, hj => exact hK 6 hj
            | 7, hj => exact hK 7 hj
            | 8, hj => exact hK 8 hj
            | _ + 9, _ => trivial
          refine AllSteps.cons (fun us hus don w' hni hdep hI hK => ?_) ?_
          · obtain ⟨u0, t0, e0, s0⟩ := len_cons hus; obtain ⟨u1, t1, e1, s1⟩ := len_cons s0; obtain ⟨u2, t2, e2, s2⟩ := len_cons s1; obtain ⟨u3, t3, e3, s3⟩ := len_cons s2; obtain ⟨u4, t4, e4, s4⟩ := len_cons s3; obtain ⟨u5, t5, e5, s5⟩ := len_cons s4; obtain ⟨u6, t6, e6, s6⟩ := len_cons s5; obtain ⟨u7, t7, e7, s7⟩ := len_cons s6; obtain ⟨u8, t8, e8, s8⟩ := len_cons s7
            obtain rfl := len_nil s8
            clear hus s0 s1 s2 s3 s4 s5 s6 s7 s8
            subst e8 e7 e6 e5 e4 e3 e2 e1 e0
            have h0 : u0 = .int .i64 (bp : Int) := hK 0 (hdep 0 (by kernel_rfl))
            have h7 : u7 = .int .i64 (m : Int) := hK 7 (hdep 7 (by kernel_rfl))
            subst h0 h7
            simp only [over, Act.put, List.setIfInBounds_toArray, List.set_cons_zero, List.set_cons_succ]
            gi_wp2
            exact postK_normal ⟨_, rfl, rfl, ⟨fun h => hI.1 (by simpa using h), fun h => hI.2.1 (by simpa using h), hI.2.2⟩, hK⟩
          exact AllSteps.nil
        case fin =>
          intro us hus don w' hall hI hK
          obtain ⟨u0, t0, e0, s0⟩ := len_cons hus; obtain ⟨u1, t1, e1, s1⟩ := len_cons s0; obtain ⟨u2, t2, e2, s2⟩ := len_cons s1; obtain ⟨u3, t3, e3, s3⟩ := len_cons s2; obtain ⟨u4, t4, e4, s4⟩ := len_cons s3; obtain ⟨u5, t5, e5, s5⟩ := len_cons s4; obtain ⟨u6, t6, e6, s6⟩ := len_cons s5; obtain ⟨u7, t7, e7, s7⟩ := len_cons s6; obtain ⟨u8, t8, e8, s8⟩ := len_cons s7
          obtain rfl := len_nil s8
          clear hus s0 s1 s2 s3 s4 s5 s6 s7 s8
          subst e8 e7 e6 e5 e4 e3 e2 e1 e0
          have h8 : u8 = .int .i64 ((bp : Int) + (m : Int)) := hK 8 (by decide)
          have hI2 := hI.2.1 (hall 7 (by decide))
          have HI2 := Lib.hid hI2
          have HX2 := Lib.hid hI.2.2
          clear hK hall hI hI2
          subst h8
          simp only [over, Act.put, List.setIfInBounds_toArray, List.set_cons_zero, List.set_cons_succ, List.length_cons, List.length_nil, Nat.zero_add, Nat.reduceAdd, List.drop_succ_cons, List.drop_zero]
          gi_wp2
          go_wp2_with fail
          go_roundg (gk - s)
          case measure => omega
          case rel => exact ⟨j + s, tl', by have := HJ.out; omega, by rw [HBP2.out]; go_num, by omega, HTL.out, by rw [HC2.out]; exact HI2.out, HX2.out⟩
      · have hje : j = c := by have := HJ.out; omega
        have hbn : bp = n := by rw [← HBPJ.out, hje, Nat.mul_comm]; exact HNN.out
        have HRES := Lib.hid (show Own w.heap.size wr.heap.size wr (.slice (some ⟨g, 0, none⟩) n n) (repL l c) from by
          have hlen : (repL l c).length = n := by rw [repL_length, Nat.mul_comm]; exact HNN.out
          refine ⟨_, n, by rw [hlen], by rw [hlen]; exact Nat.le_refl _, by unfold maxLen; omega, .inr ⟨g, 0, rfl, by have := HG.out; omega, ?_, fun i hi => ⟨?_, ?_⟩⟩⟩
          · exact (Array.getElem?_eq_some_iff.1 HGC.out).1
          · rw [Nat.zero_add]
            unfold World.cell?
            simp only [HGC.out]
            have h2 : cur = bcells (repL l c) ++ tl := by rw [← HCUR.out, hje]
            rw [h2]
            have h3 : i < (bcells (repL l c)).length := by rw [bcells_length]; exact hi
            simp only [List.getElem?_toArray, List.getElem?_append_left h3]
            simp [bcells, hi]
          · unfold World.frozen?
            simp [HGC.out])
        have hbnI : ¬ (bp : Int) < (n : Int) := by omega
        clear hje
        go_wp2_with fail
        go_ret
        exact ⟨_, rfl, HRES.out, HX.out⟩
  · have HQ2 := HQ
    go_enter Try.func44, Try.ntmps44
    go_upto_region 17 with (go_at_call 52; refine cM.mono ?_; rintro _ w1 ⟨rfl, e1⟩; subst w1)
    have hbl : (bcells l).length = l.length := bcells_length l
    go_wp2_with (refine wpList_copy_own rfl _ _ 22 22 rfl 5 Try.underlying22 info_u8z g 0 n n ⟨sb, so, none⟩ l.length sc rfl rfl cells 5 hg2 (bcells l) (by rw [bcells_length]; exact (Nat.min_eq_left hLn).symm) hsrc0 (by rw [bcells_length]; omega) (bcells_one _) ?_)
    clear hbl
    go_loopg [10] (c - 1) (fun k b10 wr => ∃ (j : Nat) (tl : List Value), j + k = c ∧ b10 = .int .i64 ((j * l.length : Nat) : Int) ∧ 1 ≤ j ∧ (bcells (repL l j) ++ tl).length = cells.size ∧ wr.heap[g]? = some (.cells (bcells (repL l j) ++ tl).toArray 5 (0, 0)) ∧ Ext w wr)
    case atStart =>
      refine ⟨1, tl0, by omega, by simp, Nat.le_refl _, HTL0.out, ?_, ⟨below_setRow x2.below (by have := HG.out; omega) _⟩⟩
      rw [repL_one, ← HT0.out]
      exact setRow_heap w2 g _ _ _ _ hg2
    case round =>
      obtain ⟨j, tl, hj, rfl, hj1, htl, hgc, hx⟩ := hrel
      have HJ := Lib.hid hj
      have HX := Lib.hid hx
      have HTL1 := Lib.hid htl
      obtain ⟨bp, hbp⟩ : ∃ bp, j * l.length = bp := ⟨_, rfl⟩
      have HBPJ := Lib.hid hbp
      rw [hbp]
      obtain ⟨cur, hcur⟩ : ∃ cur, bcells (repL l j) ++ tl = cur := ⟨_, rfl⟩
      rw [hcur] at hgc htl
      have HGC := Lib.hid hgc
      have HCUR := Lib.hid hcur
      clear hj hbp hgc hcur hx
      by_cases hlt : j < c
      · have hgk : 0 < gk := by have := HJ.out; omega
        obtain ⟨s, hs⟩ : ∃ s, min (min j q) (c - j) = s := ⟨_, rfl⟩
        have hs1 : 1 ≤ s := by omega
        have hsj : s ≤ j := by omega
        have hsk : s ≤ gk := by have := HJ.out; omega
        have e1 : ∀ a b : Nat, (min a b) * l.length = min (a * l.length) (b * l.length) := fun a b => by
          rcases Nat.le_total a b with h | h
          · rw [Nat.min_eq_left h, Nat.min_eq_left (Nat.mul_le_mul_right _ h)]
          · rw [Nat.min_eq_right h, Nat.min_eq_right (Nat.mul_le_mul_right _ h)]
        obtain ⟨ch, hch⟩ : ∃ ch, min bp cm = ch := ⟨_, rfl⟩
        have hchq : (min j q) * l.length = ch := by rw [e1, HBPJ.out, ← HQ2.out, hch]
        have hnb : (c - j) * l.length = n - bp := by rw [Nat.sub_mul, HBPJ.out, Nat.mul_comm c, HNN.out]
        obtain ⟨m, hm⟩ : ∃ m, s * l.length = m := ⟨_, rfl⟩
        have hmm : m = min ch (n - bp) := by rw [← hm, ← hs, e1, hchq, hnb]
        have hbn : bp < n := by
          have h1 : j * l.length < c * l.length := Nat.mul_lt_mul_of_pos_right hlt hlp
          rw [Nat.mul_comm c, HNN.out, HBPJ.out] at h1
          exact h1
        have HLEN := Lib.hid (show (bcells (repL l s)).length = Nat.min ch (n - bp) by rw [bcells_length, repL_length, hm, hmm])
        have hcb : ch ≤ bp := by omega
        have hmb : bp + m ≤ n := by omega
        have HFIT := Lib.hid (show bp + (bcells (repL l s)).length ≤ cur.toArray.size by rw [bcells_length, repL_length, hm]; show bp + m ≤ cur.length; omega)
        have HM := Lib.hid (show goInt (bcells (repL l s)).length = Value.int .i64 (m : Int) by rw [bcells_length, repL_length, hm]; rfl)
        have hpre : repL l j = repL l s ++ repL l (j - s) := by rw [← repL_add, Nat.add_sub_cancel' hsj]
        have HSRC := Lib.hid (show ∀ w' : World, w'.heap[g]? = some (.cells cur.toArray 5 (0, 0)) → ∀ i v, (bcells (repL l s))[i]? = some v → w'.cell? ((⟨g, 0, none⟩ : Addr).add i) = some v by
          intro w' hg' i v hi
          rw [Addr.add_lit, Nat.zero_add]
          unfold World.cell?
          simp only [hg']
          have h1 : i < (bcells (repL l s)).length := (List.getElem?_eq_some_iff.1 hi).1
          have h2 : cur = bcells (repL l s) ++ (bcells (repL l (j - s)) ++ tl) := by rw [← HCUR.out, hpre, bcells_append, List.append_assoc]
          rw [h2]
          simpa [List.getElem?_append_left h1] using hi)
        obtain ⟨tl', htl'⟩ : ∃ tl', tl.drop m = tl' := ⟨_, rfl⟩
        have hbl2 : (bcells (repL l j)).length = bp := by rw [bcells_length, repL_length, HBPJ.out]
        obtain ⟨cur', hcur'⟩ : ∃ cur', bcells (repL l (j + s)) ++ tl' = cur' := ⟨_, rfl⟩
        have HNEW := Lib.hid (show (cur.toArray.toList.take bp ++ bcells (repL l s) ++ cur.toArray.toList.drop (bp + (bcells (repL l s)).length)).toArray = cur'.toArray by
          rw [← hcur', repL_add, bcells_append, bcells_length, repL_length, hm, ← HCUR.out, ← htl']
          congr 1
          show (bcells (repL l j) ++ tl).take bp ++ bcells (repL l s) ++ (bcells (repL l j) ++ tl).drop (bp + m) = _
          rw [List.take_left' hbl2, ← List.drop_drop, List.drop_left' hbl2])
        have HTL := Lib.hid (show (bcells (repL l (j + s)) ++ tl').length = cells.size by
          have h1 := HTL1.out
          rw [List.length_append, bcells_length, repL_length] at h1 ⊢
          rw [← htl', List.length_drop, Nat.add_mul, hm, HBPJ.out]
          rw [HBPJ.out] at h1
          omega)
        have HBP2 := Lib.hid (show (j + s) * l.length = bp + m by rw [Nat.add_mul, HBPJ.out, hm])
        have HC2 := Lib.hid hcur'
        have hbnI : (bp : Int) < (n : Int) := by omega
        have hch2 : min (bp : Int) (cm : Int) = (ch : Int) := by omega
        clear hs hch hchq hnb hm hmm e1 hpre hbl2 htl' hcur'
        go_upto_region 20 with fail
        refine (wpIn_wide (n := 1)).1 ?_
        refine wpIn_region_monoG (by kernel_rfl) [67, 68, 69, 70, 71, 72, 73, 74, 75] (by decide) (by kernel_rfl) (by decide) (by simp) (by kernel_rfl) (by kernel_rfl)
          (fun don w' => (don 7 = false → w'.heap[g]? = some (.cells cur.toArray 5 (0, 0))) ∧ (don 7 = true → w'.heap[g]? = some (.cells cur'.toArray 5 (0, 0))) ∧ Ext w w')
          (fun i => match i with | 0 => (fun v _ => v = .int .i64 (bp : Int)) | 1 => (fun v _ => v = .slice (some ⟨g, 0, none⟩) n n) | 2 => (fun v _ => v = .int .i64 (bp : Int)) | 3 => (fun v _ => v = .slice (some ⟨g, bp, none⟩) (n - bp) (n - bp)) | 4 => (fun v _ => v = .slice (some ⟨g, 0, none⟩) n n) | 5 => (fun v _ => v = .int .i64 (ch : Int)) | 6 => (fun v _ => v = .slice (some ⟨g, 0, none⟩) ch n) | 7 => (fun v _ => v = .int .i64 (m : Int)) | 8 => (fun v _ => v = .int .i64 ((bp : Int) + (m : Int))) | _ => fun _ _ => True) ?hI ?steps ?fin
        case hI =>
          exact fun don h => ⟨fun _ => HGC.out, fun h7 => (by rw [h 7] at h7; cases h7), HX.out.trans (Ext.drew wr)⟩
        case steps =>
          refine AllSteps.cons (fun us hus don w' hni hdep hI hK => ?_) ?_
          · obtain ⟨u0, t0, e0, s0⟩ := len_cons hus; obtain ⟨u1, t1, e1, s1⟩ := len_cons s0; obtain ⟨u2, t2, e2, s2⟩ := len_cons s1; obtain ⟨u3, t3, e3, s3⟩ := len_cons s2; obtain ⟨u4, t4, e4, s4⟩ := len_cons s3; obtain ⟨u5, t5, e5, s5⟩ := len_cons s4; obtain ⟨u6, t6, e6, s6⟩ := len_cons s5; obtain ⟨u7, t7, e7, s7⟩ := len_cons s6; obtain ⟨u8, t8, e8, s8⟩ := len_cons s7
            obtain rfl := len_nil s8
            clear hus s0 s1 s2 s3 s4 s5 s6 s7 s8
            subst e8 e7 e6 e5 e4 e3 e2 e1 e0
            simp only [over, Act.put, List.setIfInBounds_toArray, List.set_cons_zero, List.set_cons_succ]
            gi_wp2
            exact postK_normal ⟨_, rfl, rfl, ⟨fun h => hI.1 (by simpa using h), fun h => hI.2.1 (by simpa using h), hI.2.2⟩, hK⟩
          refine AllSteps.cons (fun us hus don w' hni hdep hI hK => ?_) ?_
          · obtain ⟨u0, t0, e0, s0⟩ := len_cons hus; obtain ⟨u1, t1, e1, s1⟩ := len_cons s0; obtain ⟨u2, t2, e2, s2⟩ := len_cons s1; obtain ⟨u3, t3, e3, s3⟩ := len_cons s2; obtain ⟨u4, t4, e4, s4⟩ := len_cons s3; obtain ⟨u5, t5, e5, s5⟩ := len_cons s4; obtain ⟨u6, t6, e6, s6⟩ := len_cons s5; obtain ⟨u7, t7, e7, s7⟩ := len_cons s6; obtain ⟨u8, t8, e8, s8⟩ := len_cons s7
            obtain rfl := len_nil s8
            clear hus s0 s1 s2 s3 s4 s5 s6 s7 s8
            subst e8 e7 e6 e5 e4 e3 e2 e1 e0
            simp only [over, Act.put, List.setIfInBounds_toArray, List.set_cons_zero, List.set_cons_succ]
            gi_wp2
            exact postK_normal ⟨_, rfl, rfl, ⟨fun h => hI.1 (by simpa using h), fun h => hI.2.1 (by simpa using h), hI.2.2⟩, hK⟩
          refine AllSteps.cons (fun us hus don w' hni hdep hI hK => ?_) ?_
          · obtain ⟨u0, t0, e0, s0⟩ := len_cons hus; obtain ⟨u1, t1, e1, s1⟩ := len_cons s0; obtain ⟨u2, t2, e2, s2⟩ := len_cons s1; obtain ⟨u3, t3, e3, s3⟩ := len_cons s2; obtain ⟨u4, t4, e4, s4⟩ := len_cons s3; obtain ⟨u5, t5, e5, s5⟩ := len_cons s4; obtain ⟨u6, t6, e6, s6⟩ := len_cons s5; obtain ⟨u7, t7, e7, s7⟩ := len_cons s6; obtain ⟨u8, t8, e8, s8⟩ := len_cons s7
            obtain rfl := len_nil s8
            clear hus s0 s1 s2 s3 s4 s5 s6 s7 s8
            subst e8 e7 e6 e5 e4 e3 e2 e1 e0
            simp only [over, Act.put, List.setIfInBounds_toArray, List.set_cons_zero, List.set_cons_succ]
            gi_wp2
            exact postK_normal ⟨_, rfl, rfl, ⟨fun h => hI.1 (by simpa using h), fun h => hI.2.1 (by simpa using h), hI.2.2⟩, hK⟩
          refine AllSteps.cons (fun us hus don w' hni hdep hI hK => ?_) ?_
          · obtain ⟨u0, t0, e0, s0⟩ := len_cons hus; obtain ⟨u1, t1, e1, s1⟩ := len_cons s0; obtain ⟨u2, t2, e2, s2⟩ := len_cons s1; obtain ⟨u3, t3, e3, s3⟩ := len_cons s2; obtain ⟨u4, t4, e4, s4⟩ := len_cons s3; obtain ⟨u5, t5, e5, s5⟩ := len_cons s4; obtain ⟨u6, t6, e6, s6⟩ := len_cons s5; obtain ⟨u7, t7, e7, s7⟩ := len_cons s6; obtain ⟨u8, t8, e8, s8⟩ := len_cons s7
            obtain rfl := len_nil s8
            clear hus s0 s1 s2 s3 s4 s5 s6 s7 s8
            subst e8 e7 e6 e5 e4 e3 e2 e1 e0
            have h1 : u1 = .slice (some ⟨g, 0, none⟩) n n := hK 1 (hdep 1 (by kernel_rfl))
            have h2 : u2 = .int .i64 (bp : Int) := hK 2 (hdep 2 (by kernel_rfl))
            subst h1 h2
            simp only [over, Act.put, List.setIfInBounds_toArray, List.set_cons_zero, List.set_cons_succ]
            gi_wp2
            exact postK_normal ⟨_, rfl, (by first | rfl | go_num), ⟨fun h => hI.1 (by simpa using h), fun h => hI.2.1 (by simpa using h), hI.2.2⟩, hK⟩
          refine AllSteps.cons (fun us hus don w' hni hdep hI hK => ?_) ?_
          · obtain ⟨u0, t0, e0, s0⟩ := len_cons hus; obtain ⟨u1, t1, e1, s1⟩ := len_cons s0; obtain ⟨u2, t2, e2, s2⟩ := len_cons s1; obtain ⟨u3, t3, e3, s3⟩ := len_cons s2; obtain ⟨u4, t4, e4, s4⟩ := len_cons s3; obtain ⟨u5, t5, e5, s5⟩ := len_cons s4; obtain ⟨u6, t6, e6, s6⟩ := len_cons s5; obtain ⟨u7, t7, e7, s7⟩ := len_cons s6; obtain ⟨u8, t8, e8, s8⟩ := len_cons s7
            obtain rfl := len_nil s8
            clear hus s0 s1 s2 s3 s4 s5 s6 s7 s8
            subst e8 e7 e6 e5 e4 e3 e2 e1 e0
            simp only [over, Act.put, List.setIfInBounds_toArray, List.set_cons_zero, List.set_cons_succ]
            gi_wp2
            exact postK_normal ⟨_, rfl, rfl, ⟨fun h => hI.1 (by simpa using h), fun h => hI.2.1 (by simpa using h), hI.2.2⟩, hK⟩
          refine AllSteps.cons (fun us hus don w' hni hdep hI hK => ?_) ?_
          · obtain ⟨u0, t0, e0, s0⟩ := len_cons hus; obtain ⟨u1, t1, e1, s1⟩ := len_cons s0; obtain ⟨u2, t2, e2, s2⟩ := len_cons s1; obtain ⟨u3, t3, e3, s3⟩ := len_cons s2; obtain ⟨u4, t4, e4, s4⟩ := len_cons s3; obtain ⟨u5, t5, e5, s5⟩ := len_cons s4; obtain ⟨u6, t6, e6, s6⟩ := len_cons s5; obtain ⟨u7, t7, e7, s7⟩ := len_cons s6; obtain ⟨u8, t8, e8, s8⟩ := len_cons s7
            obtain rfl := len_nil s8
            clear hus s0 s1 s2 s3 s4 s5 s6 s7 s8
            subst e8 e7 e6 e5 e4 e3 e2 e1 e0
            simp only [over, Act.put, List.setIfInBounds_toArray, List.set_cons_zero, List.set_cons_succ]
            gi_wp2
            exact postK_normal ⟨_, rfl, rfl, ⟨fun h => hI.1 (by simpa using h), fun h => hI.2.1 (by simpa using h), hI.2.2⟩, hK⟩
          refine AllSteps.cons (fun us hus don w' hni hdep hI hK => ?_) ?_
          · obtain ⟨u0, t0, e0, s0⟩ := len_cons hus; obtain ⟨u1, t1, e1, s1⟩ := len_cons s0; obtain ⟨u2, t2, e2, s2⟩ := len_cons s1; obtain ⟨u3, t3, e3, s3⟩ := len_cons s2; obtain ⟨u4, t4, e4, s4⟩ := len_cons s3; obtain ⟨u5, t5, e5, s5⟩ := len_cons s4; obtain ⟨u6, t6, e6, s6⟩ := len_cons s5; obtain ⟨u7, t7, e7, s7⟩ := len_cons s6; obtain ⟨u8, t8, e8, s8⟩ := len_cons s7
            obtain rfl := len_nil s8
            clear hus s0 s1 s2 s3 s4 s5 s6 s7 s8
            subst e8 e7 e6 e5 e4 e3 e2 e1 e0
            have h4 : u4 = .slice (some ⟨g, 0, none⟩) n n := hK 4 (hdep 4 (by kernel_rfl))
            have h5 : u5 = .int .i64 (ch : Int) := hK 5 (hdep 5 (by kernel_rfl))
            subst h4 h5
            simp only [over, Act.put, List.setIfInBounds_toArray, List.set_cons_zero, List.set_cons_succ]
            gi_wp2
            exact postK_normal ⟨_, rfl, (by first | rfl | go_num), ⟨fun h => hI.1 (by simpa using h), fun h => hI.2.1 (by simpa using h), hI.2.2⟩, hK⟩
          refine AllSteps.cons (fun us hus don w' hni hdep hI hK => ?_) ?_
          · obtain ⟨u0, t0, e0, s0⟩ := len_cons hus; obtain ⟨u1, t1, e1, s1⟩ := len_cons s0; obtain ⟨u2, t2, e2, s2⟩ := len_cons s1; obtain ⟨u3, t3, e3, s3⟩ := len_cons s2; obtain ⟨u4, t4, e4, s4⟩ := len_cons s3; obtain ⟨u5, t5, e5, s5⟩ := len_cons s4; obtain ⟨u6, t6, e6, s6⟩ := len_cons s5; obtain ⟨u7, t7, e7, s7⟩ := len_cons s6; obtain ⟨u8, t8, e8, s8⟩ := len_cons s7
            obtain rfl := len_nil s8
            clear hus s0 s1 s2 s3 s4 s5 s6 s7 s8
            subst e8 e7 e6 e5 e4 e3 e2 e1 e0
            have h3 : u3 = .slice (some ⟨g, bp, none⟩) (n - bp) (n - bp) := hK 3 (hdep 3 (by kernel_rfl))
            have h6 : u6 = .slice (some ⟨g, 0, none⟩) ch n := hK 6 (hdep 6 (by kernel_rfl))
            subst h3 h6
            simp only [over, Act.put, List.setIfInBounds_toArray, List.set_cons_zero, List.set_cons_succ]
            have hg7 := hI.1 hni
            have hsrc : ∀ j v, (bcells (repL l s))[j]? = some v → w'.cell? ((⟨g, 0, none⟩ : Addr).add j) = some v := fun j v hj => HSRC.out w' hg7 j v hj
            refine wpListIn_copy_own rfl _ _ 22 22 rfl 5 Try.underlying22 info_u8z g bp (n - bp) (n - bp) ⟨g, 0, none⟩ ch n rfl rfl cur.toArray 5 hg7 (bcells (repL l s)) HLEN.out hsrc HFIT.out (bcells_one _) ?_
            rw [HNEW.out]
            refine postK_normal ⟨_, rfl, HM.out, ⟨fun h => (by simp at h), fun _ => setRow_heap w' g _ _ _ _ hg7, ⟨below_setRow hI.2.2.below (by have := HG.out; omega) _⟩⟩, fun j hj => ?_⟩
            match j, hj with
            | 0, hj => exact hK 0 hj
            | 1, hj => exact hK 1 hj
            | 2, hj => exact hK 2 hj
            | 3, hj => exact hK 3 hj
            | 4, hj => exact hK 4 hj
            | 5, hj => exact hK 5 hj
            | 6, hj => exact hK 6 hj
            | 7, hj => exact hK 7 hj
            | 8, hj => exact hK 8 hj
            | _ + 9, _ => trivial
          refine AllSteps.cons (fun us hus don w' hni hdep hI hK => ?_) ?_
          · obtain ⟨u0, t0, e0, s0⟩ := len_cons hus; obtain ⟨u1, t1, e1, s1⟩ := len_cons s0; obtain ⟨u2, t2, e2, s2⟩ := len_cons s1; obtain ⟨u3, t3, e3, s3⟩ := len_cons s2; obtain ⟨u4, t4, e4, s4⟩ := len_cons s3; obtain ⟨u5, t5, e5, s5⟩ := len_cons s4; obtain ⟨u6, t6, e6, s6⟩ := len_cons s5; obtain ⟨u7, t7, e7, s7⟩ := len_cons s6; obtain ⟨u8, t8, e8, s8⟩ := len_cons s7
            obtain rfl := len_nil s8
            clear hus s0 s1 s2 s3 s4 s5 s6 s7 s8
            subst e8 e7 e6 e5 e4 e3 e2 e1 e0
            have h0 : u0 = .int .i64 (bp : Int) := hK 0 (hdep 0 (by kernel_rfl))
            have h7 : u7 = .int .i64 (m : Int) := hK 7 (hdep 7 (by kernel_rfl))
            subst h0 h7
            simp only [over, Act.put, List.setIfInBounds_toArray, List.set_cons_zero, List.set_cons_succ]
            gi_wp2
            exact postK_normal ⟨_, rfl, rfl, ⟨fun h => hI.1 (by simpa using h), fun h => hI.2.1 (by simpa using h), hI.2.2⟩, hK⟩
          exact AllSteps.nil
        case fin =>
          intro us hus don w' hall hI hK
          obtain ⟨u0, t0, e0, s0⟩ := len_cons hus; obtain ⟨u1, t1, e1, s1⟩ := len_cons s0; obtain ⟨u2, t2, e2, s2⟩ := len_cons s1; obtain ⟨u3, t3, e3, s3⟩ := len_cons s2; obtain ⟨u4, t4, e4, s4⟩ := len_cons s3; obtain ⟨u5, t5, e5, s5⟩ := len_cons s4; obtain ⟨u6, t6, e6, s6⟩ := len_cons s5; obtain ⟨u7, t7, e7, s7⟩ := len_cons s6; obtain ⟨u8, t8, e8, s8⟩ := len_cons s7
          obtain rfl := len_nil s8
          clear hus s0 s1 s2 s3 s4 s5 s6 s7 s8
          subst e8 e7 e6 e5 e4 e3 e2 e1 e0
          have h8 : u8 = .int .i64 ((bp : Int) + (m : Int)) := hK 8 (by decide)
          have hI2 := hI.2.1 (hall 7 (by decide))
          have HI2 := Lib.hid hI2
          have HX2 := Lib.hid hI.2.2
          clear hK hall hI hI2
          subst h8
          simp only [over, Act.put, List.setIfInBounds_toArray, List.set_cons_zero, List.set_cons_succ, List.length_cons, List.length_nil, Nat.zero_add, Nat.reduceAdd, List.drop_succ_cons, List.drop_zero]
          gi_wp2
          go_wp2_with fail
          go_roundg (gk - s)
          case measure => omega
          case rel => exact ⟨j + s, tl', by have := HJ.out; omega, by rw [HBP2.out]; go_num, by omega, HTL.out, by rw [HC2.out]; exact HI2.out, HX2.out⟩
      · have hje : j = c := by have := HJ.out; omega
        have hbn : bp = n := by rw [← HBPJ.out, hje, Nat.mul_comm]; exact HNN.out
        have HRES := Lib.hid (show Own w.heap.size wr.heap.size wr (.slice (some ⟨g, 0, none⟩) n n) (repL l c) from by
          have hlen : (repL l c).length = n := by rw [repL_length, Nat.mul_comm]; exact HNN.out
          refine ⟨_, n, by rw [hlen], by rw [hlen]; exact Nat.le_refl _, by unfold maxLen; omega, .inr ⟨g, 0, rfl, by have := HG.out; omega, ?_, fun i hi => ⟨?_, ?_⟩⟩⟩
          · exact (Array.getElem?_eq_some_iff.1 HGC.out).1
          · rw [Nat.zero_add]
            unfold World.cell?
            simp only [HGC.out]
            have h2 : cur = bcells (repL l c) ++ tl := by rw [← HCUR.out, hje]
            rw [h2]
            have h3 : i < (bcells (repL l c)).length := by rw [bcells_length]; exact hi
            simp only [List.getElem?_toArray, List.getElem?_append_left h3]
            simp [bcells, hi]
          · unfold World.frozen?
            simp [HGC.out])
        have hbnI : ¬ (bp : Int) < (n : Int) := by omega
        clear hje
        go_wp2_with fail
        go_ret
        exact ⟨_, rfl, HRES.out, HX.out⟩
  · have HQ2 := Lib.hid (show l.length = q * l.length by have := HQ.out; rw [hcl] at this; exact this)
    go_enter Try.func44, Try.ntmps44
    go_upto_region 17 with (go_at_call 52; refine cM.mono ?_; rintro _ w1 ⟨rfl, e1⟩; subst w1)
    have hbl : (bcells l).length = l.length := bcells_length l
    go_wp2_with (refine wpList_copy_own rfl _ _ 22 22 rfl 5 Try.underlying22 info_u8z g 0 n n ⟨sb, so, none⟩ l.length sc rfl rfl cells 5 hg2 (bcells l) (by rw [bcells_length]; exact (Nat.min_eq_left hLn).symm) hsrc0 (by rw [bcells_length]; omega) (bcells_one _) ?_)
    clear hbl
    go_loopg [10] (c - 1) (fun k b10 wr => ∃ (j : Nat) (tl : List Value), j + k = c ∧ b10 = .int .i64 ((j * l.length : Nat) : Int) ∧ 1 ≤ j ∧ (bcells (repL l j) ++ tl).length = cells.size ∧ wr.heap[g]? = some (.cells (bcells (repL l j) ++ tl).toArray 5 (0, 0)) ∧ Ext w wr)
    case atStart =>
      refine ⟨1, tl0, by omega, by simp, Nat.le_refl _, HTL0.out, ?_, ⟨below_setRow x2.below (by have := HG.out; omega) _⟩⟩
      rw [repL_one, ← HT0.out]
      exact setRow_heap w2 g _ _ _ _ hg2
    case round =>
      obtain ⟨j, tl, hj, rfl, hj1, htl, hgc, hx⟩ := hrel
      have HJ := Lib.hid hj
      have HX := Lib.hid hx
      have HTL1 := Lib.hid htl
      obtain ⟨bp, hbp⟩ : ∃ bp, j * l.length = bp := ⟨_, rfl⟩
      have HBPJ := Lib.hid hbp
      rw [hbp]
      obtain ⟨cur, hcur⟩ : ∃ cur, bcells (repL l j) ++ tl = cur := ⟨_, rfl⟩
      rw [hcur] at hgc htl
      have HGC := Lib.hid hgc
      have HCUR := Lib.hid hcur
      clear hj hbp hgc hcur hx
      by_cases hlt : j < c
      · have hgk : 0 < gk := by have := HJ.out; omega
        obtain ⟨s, hs⟩ : ∃ s, min (min j q) (c - j) = s := ⟨_, rfl⟩
        have hs1 : 1 ≤ s := by omega
        have hsj : s ≤ j := by omega
        have hsk : s ≤ gk := by have := HJ.out; omega
        have e1 : ∀ a b : Nat, (min a b) * l.length = min (a * l.length) (b * l.length) := fun a b => by
          rcases Nat.le_total a b with h | h
          · rw [Nat.min_eq_left h, Nat.min_eq_left (Nat.mul_le_mul_right _ h)]
          · rw [Nat.min_eq_right h, Nat.min_eq_right (Nat.mul_le_mul_right _ h)]
        obtain ⟨ch, hch⟩ : ∃ ch, min bp l.length = ch := ⟨_, rfl⟩
        have hchq : (min j q) * l.length = ch := by rw [e1, HBPJ.out, ← HQ2.out, hch]
        have hnb : (c - j) * l.length = n - bp := by rw [Nat.sub_mul, HBPJ.out, Nat.mul_comm c, HNN.out]
        obtain ⟨m, hm⟩ : ∃ m, s * l.length = m := ⟨_, rfl⟩
        have hmm : m = min ch (n - bp) := by rw [← hm, ← hs, e1, hchq, hnb]
        have hbn : bp < n := by
          have h1 : j * l.length < c * l.length := Nat.mul_lt_mul_of_pos_right hlt hlp
          rw [Nat.mul_comm c, HNN.out, HBPJ.out] at h1
          exact h1
        have HLEN := Lib.hid (show (bcells (repL l s)).length = Nat.min ch (n - bp) by rw [bcells_length, repL_length, hm, hmm])
        have hcb : ch ≤ bp := by omega
        have hmb : bp + m ≤ n := by omega
        have HFIT := Lib.hid (show bp + (bcells (repL l s)).length ≤ cur.toArray.size by rw [bcells_length, repL_length, hm]; show bp + m ≤ cur.length; omega)
        have HM := Lib.hid (show goInt (bcells (repL l s)).length = Value.int .i64 (m : Int) by rw [bcells_length, repL_length, hm]; rfl)
        have hpre : repL l j = repL l s ++ repL l (j - s) := by rw [← repL_add, Nat.add_sub_cancel' hsj]
        have HSRC := Lib.hid (show ∀ w' : World, w'.heap[g]? = some (.cells cur.toArray 5 (0, 0)) → ∀ i v, (bcells (repL l s))[i]? = some v → w'.cell? ((⟨g, 0, none⟩ : Addr).add i) = some v by
          intro w' hg' i v hi
          rw [Addr.add_lit, Nat.zero_add]
          unfold World.cell?
          simp only [hg']
          have h1 : i < (bcells (repL l s)).length := (List.getElem?_eq_some_iff.1 hi).1
          have h2 : cur = bcells (repL l s) ++ (bcells (repL l (j - s)) ++ tl) := by rw [← HCUR.out, hpre, bcells_append, List.append_assoc]
          rw [h2]
          simpa [List.getElem?_append_left h1] using hi)
        obtain ⟨tl', htl'⟩ : ∃ tl', tl.drop m = tl' := ⟨_, rfl⟩
        have hbl2 : (bcells (repL l j)).length = bp := by rw [bcells_length, repL_length, HBPJ.out]
        obtain ⟨cur', hcur'⟩ : ∃ cur', bcells (repL l (j + s)) ++ tl' = cur' := ⟨_, rfl⟩
        have HNEW := Lib.hid (show (cur.toArray.toList.take bp ++ bcells (repL l s) ++ cur.toArray.toList.drop (bp + (bcells (repL l s)).length)).toArray = cur'.toArray by
          rw [← hcur', repL_add, bcells_append, bcells_length, repL_length, hm, ← HCUR.out, ← htl']
          congr 1
          show (bcells (repL l j) ++ tl).take bp ++ bcells (repL l s) ++ (bcells (repL l j) ++ tl).drop (bp + m) = _
          rw [List.take_left' hbl2, ← List.drop_drop, List.drop_left' hbl2])
        have HTL := Lib.hid (show (bcells (repL l (j + s)) ++ tl').length = cells.size by
          have h1 := HTL1.out
          rw [List.length_append, bcells_length, repL_length] at h1 ⊢
          rw [← htl', List.length_drop, Nat.add_mul, hm, HBPJ.out]
          rw [HBPJ.out] at h1
          omega)
        have HBP2 := Lib.hid (show (j + s) * l.length = bp + m by rw [Nat.add_mul, HBPJ.out, hm])
        have HC2 := Lib.hid hcur'
        have hbnI : (bp : Int) < (n : Int) := by omega
        have hch2 : min (bp : Int) (l.length : Int) = (ch : Int) := by omega
        clear hs hch hchq hnb hm hmm e1 hpre hbl2 htl' hcur'
        go_upto_region 20 with fail
        refine (wpIn_wide (n := 1)).1 ?_
        refine wpIn_region_monoG (by kernel_rfl) [67, 68, 69, 70, 71, 72, 73, 74, 75] (by decide) (by kernel_rfl) (by decide) (by simp) (by kernel_rfl) (by kernel_rfl)
          (fun don w' => (don 7 = false → w'.heap[g]? = some (.cells cur.toArray 5 (0, 0))) ∧ (don 7 = true → w'.heap[g]? = some (.cells cur'.toArray 5 (0, 0))) ∧ Ext w w')
          (fun i => match i with | 0 => (fun v _ => v = .int .i64 (bp : Int)) | 1 => (fun v _ => v = .slice (some ⟨g, 0, none⟩) n n) | 2 => (fun v _ => v = .int .i64 (bp : Int)) | 3 => (fun v _ => v = .slice (some ⟨g, bp, none⟩) (n - bp) (n - bp)) | 4 => (fun v _ => v = .slice (some ⟨g, 0, none⟩) n n) | 5 => (fun v _ => v = .int .i64 (ch : Int)) | 6 => (fun v _ => v = .slice (some ⟨g, 0, none⟩) ch n) | 7 => (fun v _ => v = .int .i64 (m : Int)) | 8 => (fun v _ => v = .int .i64 ((bp : Int) + (m : Int))) | _ => fun _ _ => True) ?hI ?steps ?fin
        case hI =>
          exact fun don h => ⟨fun _ => HGC.out, fun h7 => (by rw [h 7] at h7; cases h7), HX.out.trans (Ext.drew wr)⟩
        case steps =>
          refine AllSteps.cons (fun us hus don w' hni hdep hI hK => ?_) ?_
          · obtain ⟨u0, t0, e0, s0⟩ := len_cons hus; obtain ⟨u1, t1, e1, s1⟩ := len_cons s0; obtain ⟨u2, t2, e2, s2⟩ := len_cons s1; obtain ⟨u3, t3, e3, s3⟩ := len_cons s2; obtain ⟨u4, t4, e4, s4⟩ := len_cons s3; obtain ⟨u5, t5, e5, s5⟩ := len_cons s4; obtain ⟨u6, t6, e6, s6⟩ := len_cons s5; obtain ⟨u7, t7, e7, s7⟩ := len_cons s6; obtain ⟨u8, t8, e8, s8⟩ := len_cons s7
            obtain rfl := len_nil s8
            clear hus s0 s1 s2 s3 s4 s5 s6 s7 s8
            subst e8 e7 e6 e5 e4 e3 e2 e1 e0
            simp only [over, Act.put, List.setIfInBounds_toArray, List.set_cons_zero, List.set_cons_succ]
            gi_wp2
            exact postK_normal ⟨_, rfl, rfl, ⟨fun h => hI.1 (by simpa using h), fun h => hI.2.1 (by simpa using h), hI.2.2⟩, hK⟩
          refine AllSteps.cons (fun us hus don w' hni hdep hI hK => ?_) ?_
          · obtain ⟨u0, t0, e0, s0⟩ := len_cons hus; obtain ⟨u1, t1, e1, s1⟩ := len_cons s0; obtain ⟨u2, t2, e2, s2⟩ := len_cons s1; obtain ⟨u3, t3, e3, s3⟩ := len_cons s2; obtain ⟨u4, t4, e4, s4⟩ := len_cons s3; obtain ⟨u5, t5, e5, s5⟩ := len_cons s4; obtain ⟨u6, t6, e6, s6⟩ := len_cons s5; obtain ⟨u7, t7, e7, s7⟩ := len_cons s6; obtain ⟨u8, t8, e8, s8⟩ := len_cons s7
            obtain rfl := len_nil s8
            clear hus s0 s1 s2 s3 s4 s5 s6 s7 s8
            subst e8 e7 e6 e5 e4 e3 e2 e1 e0
            simp only [over, Act.put, List.setIfInBounds_toArray, List.set_cons_zero, List.set_cons_succ]
            gi_wp2
            exact postK_normal ⟨_, rfl, rfl, ⟨fun h => hI.1 (by simpa using h), fun h => hI.2.1 (by simpa using h), hI.2.2⟩, hK⟩
          refine AllSteps.cons (fun us hus don w' hni hdep hI hK => ?_) ?_
          · obtain ⟨u0, t0, e0, s0⟩ := len_cons hus; obtain ⟨u1, t1, e1, s1⟩ := len_cons s0; obtain ⟨u2, t2, e2, s2⟩ := len_cons s1; obtain ⟨u3, t3, e3, s3⟩ := len_cons s2; obtain ⟨u4, t4, e4, s4⟩ := len_cons s3; obtain ⟨u5, t5, e5, s5⟩ := len_cons s4; obtain ⟨u6, t6, e6, s6⟩ := len_cons s5; obtain ⟨u7, t7, e7, s7⟩ := len_cons s6; obtain ⟨u8, t8, e8, s8⟩ := len_cons s7
            obtain rfl := len_nil s8
            clear hus s0 s1 s2 s3 s4 s5 s6 s7 s8
            subst e8 e7 e6 e5 e4 e3 e2 e1 e0
            simp only [over, Act.put, List.setIfInBounds_toArray, List.set_cons_zero, List.set_cons_succ]
            gi_wp2
            exact postK_normal ⟨_, rfl, rfl, ⟨fun h => hI.1 (by simpa using h), fun h => hI.2.1 (by simpa using h), hI.2.2⟩, hK⟩
          refine AllSteps.cons (fun us hus don w' hni hdep hI hK => ?_) ?_
          · obtain ⟨u0, t0, e0, s0⟩ := len_cons hus; obtain ⟨u1, t1, e1, s1⟩ := len_cons s0; obtain ⟨u2, t2, e2, s2⟩ := len_cons s1; obtain ⟨u3, t3, e3, s3⟩ := len_cons s2; obtain ⟨u4, t4, e4, s4⟩ := len_cons s3; obtain ⟨u5, t5, e5, s5⟩ := len_cons s4; obtain ⟨u6, t6, e6, s6⟩ := len_cons s5; obtain ⟨u7, t7, e7, s7⟩ := len_cons s6; obtain ⟨u8, t8, e8, s8⟩ := len_cons s7
            obtain rfl := len_nil s8
            clear hus s0 s1 s2 s3 s4 s5 s6 s7 s8
            subst e8 e7 e6 e5 e4 e3 e2 e1 e0
            have h1 : u1 = .slice (some ⟨g, 0, none⟩) n n := hK 1 (hdep 1 (by kernel_rfl))
            have h2 : u2 = .int .i64 (bp : Int) := hK 2 (hdep 2 (by kernel_rfl))
            subst h1 h2
            simp only [over, Act.put, List.setIfInBounds_toArray, List.set_cons_zero, List.set_cons_succ]
            gi_wp2
            exact postK_normal ⟨_, rfl, (by first | rfl | go_num), ⟨fun h => hI.1 (by simpa using h), fun h => hI.2.1 (by simpa using h), hI.2.2⟩, hK⟩
          refine AllSteps.cons (fun us hus don w' hni hdep hI hK => ?_) ?_
          · obtain ⟨u0, t0, e0, s0⟩ := len_cons hus; obtain ⟨u1, t1, e1, s1⟩ := len_cons s0; obtain ⟨u2, t2, e2, s2⟩ := len_cons s1; obtain ⟨u3, t3, e3, s3⟩ := len_cons s2; obtain ⟨u4, t4, e4, s4⟩ := len_cons s3; obtain ⟨u5, t5, e5, s5⟩ := len_cons s4; obtain ⟨u6, t6, e6, s6⟩ := len_cons s5; obtain ⟨u7, t7, e7, s7⟩ := len_cons s6; obtain ⟨u8, t8, e8, s8⟩ := len_cons s7
            obtain rfl := len_nil s8
            clear hus s0 s1 s2 s3 s4 s5 s6 s7 s8
            subst e8 e7 e6 e5 e4 e3 e2 e1 e0
            simp only [over, Act.put, List.setIfInBounds_toArray, List.set_cons_zero, List.set_cons_succ]
            gi_wp2
            exact postK_normal ⟨_, rfl, rfl, ⟨fun h => hI.1 (by simpa using h), fun h => hI.2.1 (by simpa using h), hI.2.2⟩, hK⟩
          refine AllSteps.cons (fun us hus don w' hni hdep hI hK => ?_) ?_
          · obtain ⟨u0, t0, e0, s0⟩ := len_cons hus; obtain ⟨u1, t1, e1, s1⟩ := len_cons s0; obtain ⟨u2, t2, e2, s2⟩ := len_cons s1; obtain ⟨u3, t3, e3, s3⟩ := len_cons s2; obtain ⟨u4, t4, e4, s4⟩ := len_cons s3; obtain ⟨u5, t5, e5, s5⟩ := len_cons s4; obtain ⟨u6, t6, e6, s6⟩ := len_cons s5; obtain ⟨u7, t7, e7, s7⟩ := len_cons s6; obtain ⟨u8, t8, e8, s8⟩ := len_cons s7
            obtain rfl := len_nil s8
            clear hus s0 s1 s2 s3 s4 s5 s6 s7 s8
            subst e8 e7 e6 e5 e4 e3 e2 e1 e0
            simp only [over, Act.put, List.setIfInBounds_toArray, List.set_cons_zero, List.set_cons_succ]
            gi_wp2
            exact postK_normal ⟨_, rfl, rfl, ⟨fun h => hI.1 (by simpa using h), fun h => hI.2.1 (by simpa using h), hI.2.2⟩, hK⟩
          refine AllSteps.cons (fun us hus don w' hni hdep hI hK => ?_) ?_
          · obtain ⟨u0, t0, e0, s0⟩ := len_cons hus; obtain ⟨u1, t1, e1, s1⟩ := len_cons s0; obtain ⟨u2, t2, e2, s2⟩ := len_cons s1; obtain ⟨u3, t3, e3, s3⟩ := len_cons s2; obtain ⟨u4, t4, e4, s4⟩ := len_cons s3; obtain ⟨u5, t5, e5, s5⟩ := len_cons s4; obtain ⟨u6, t6, e6, s6⟩ := len_cons s5; obtain ⟨u7, t7, e7, s7⟩ := len_cons s6; obtain ⟨u8, t8, e8, s8⟩ := len_cons s7
            obtain rfl := len_nil s8
            clear hus s0 s1 s2 s3 s4 s5 s6 s7 s8
            subst e8 e7 e6 e5 e4 e3 e2 e1 e0
            have h4 : u4 = .slice (some ⟨g, 0, none⟩) n n := hK 4 (hdep 4 (by kernel_rfl))
            have h5 : u5 = .int .i64 (ch : Int) := hK 5 (hdep 5 (by kernel_rfl))
            subst h4 h5
            simp only [over, Act.put, List.setIfInBounds_toArray, List.set_cons_zero, List.set_cons_succ]
            gi_wp2
            exact postK_normal ⟨_, rfl, (by first | rfl | go_num), ⟨fun h => hI.1 (by simpa using h), fun h => hI.2.1 (by simpa using h), hI.2.2⟩, hK⟩
          refine AllSteps.cons (fun us hus don w' hni hdep hI hK => ?_) ?_
          · obtain ⟨u0, t0, e0, s0⟩ := len_cons hus; obtain ⟨u1, t1, e1, s1⟩ := len_cons s0; obtain ⟨u2, t2, e2, s2⟩ := len_cons s1; obtain ⟨u3, t3, e3, s3⟩ := len_cons s2; obtain ⟨u4, t4, e4, s4⟩ := len_cons s3; obtain ⟨u5, t5, e5, s5⟩ := len_cons s4; obtain ⟨u6, t6, e6, s6⟩ := len_cons s5; obtain ⟨u7, t7, e7, s7⟩ := len_cons s6; obtain ⟨u8, t8, e8, s8⟩ := len_cons s7
            obtain rfl := len_nil s8
            clear hus s0 s1 s2 s3 s4 s5 s6 s7 s8
            subst e8 e7 e6 e5 e4 e3 e2 e1 e0
            have h3 : u3 = .slice (some ⟨g, bp, none⟩) (n - bp) (n - bp) := hK 3 (hdep 3 (by kernel_rfl))
            have h6 : u6 = .slice (some ⟨g, 0, none⟩) ch n := hK 6 (hdep 6 (by kernel_rfl))
            subst h3 h6
            simp only [over, Act.put, List.setIfInBounds_toArray, List.set_cons_zero, List.set_cons_succ]
            have hg7 := hI.1 hni
            have hsrc : ∀ j v, (bcells (repL l s))[j]? = some v → w'.cell? ((⟨g, 0, none⟩ : Addr).add j) = some v := fun j v hj => HSRC.out w' hg7 j v hj
            refine wpListIn_copy_own rfl _ _ 22 22 rfl 5 Try.underlying22 info_u8z g bp (n - bp) (n - bp) ⟨g, 0, none⟩ ch n rfl rfl cur.toArray 5 hg7 (bcells (repL l s)) HLEN.out hsrc HFIT.out (bcells_one _) ?_
            rw [HNEW.out]
            refine postK_normal ⟨_, rfl, HM.out, ⟨fun h => (by simp at h), fun _ => setRow_heap w' g _ _ _ _ hg7, ⟨below_setRow hI.2.2.below (by have := HG.out; omega) _⟩⟩, fun j hj => ?_⟩
            match j, hj with
            | 0, hj => exact hK 0 hj
            | 1, hj => exact hK 1 hj
            | 2, hj => exact hK 2 hj
            | 3, hj => exact hK 3 hj
            | 4, hj => exact hK 4 hj
            | 5, hj => exact hK 5 hj
            | 6, hj => exact hK 6 hj
            | 7, hj => exact hK 7 hj
            | 8, hj => exact hK 8 hj
            | _ + 9, _ => trivial
          refine AllSteps.cons (fun us hus don w' hni hdep hI hK => ?_) ?_
          · obtain ⟨u0, t0, e0, s0⟩ := len_cons hus; obtain ⟨u1, t1, e1, s1⟩ := len_cons s0; obtain ⟨u2, t2, e2, s2⟩ := len_cons s1; obtain ⟨u3, t3, e3, s3⟩ := len_cons s2; obtain ⟨u4, t4, e4, s4⟩ := len_cons s3; obtain ⟨u5, t5, e5, s5⟩ := len_cons s4; obtain ⟨u6, t6, e6, s6⟩ := len_cons s5; obtain ⟨u7, t7, e7, s7⟩ := len_cons s6; obtain ⟨u8, t8, e8, s8⟩ := len_cons s7
            obtain rfl := len_nil s8
            clear hus s0 s1 s2 s3 s4 s5 s6 s7 s8
            subst e8 e7 e6 e5 e4 e3 e2 e1 e0
            have h0 : u0 = .int .i64 (bp : Int) := hK 0 (hdep 0 (by kernel_rfl))
            have h7 : u7 = .int .i64 (m : Int) := hK 7 (hdep 7 (by kernel_rfl))
            subst h0 h7
            simp only [over, Act.put, List.setIfInBounds_toArray, List.set_cons_zero, List.set_cons_succ]
            gi_wp2
            exact postK_normal ⟨_, rfl, rfl, ⟨fun h => hI.1 (by simpa using h), fun h => hI.2.1 (by simpa using h), hI.2.2⟩, hK⟩
          exact AllSteps.nil
        case fin =>
          intro us hus don w' hall hI hK
          obtain ⟨u0, t0, e0, s0⟩ := len_cons hus; obtain ⟨u1, t1, e1, s1⟩ := len_cons s0; obtain ⟨u2, t2, e2, s2⟩ := len_cons s1; obtain ⟨u3, t3, e3, s3⟩ := len_cons s2; obtain ⟨u4, t4, e4, s4⟩ := len_cons s3; obtain ⟨u5, t5, e5, s5⟩ := len_cons s4; obtain ⟨u6, t6, e6, s6⟩ := len_cons s5; obtain ⟨u7, t7, e7, s7⟩ := len_cons s6; obtain ⟨u8, t8, e8, s8⟩ := len_cons s7
          obtain rfl := len_nil s8
          clear hus s0 s1 s2 s3 s4 s5 s6 s7 s8
          subst e8 e7 e6 e5 e4 e3 e2 e1 e0
          have h8 : u8 = .int .i64 ((bp : Int) + (m : Int)) := hK 8 (by decide)
          have hI2 := hI.2.1 (hall 7 (by decide))
          have HI2 := Lib.hid hI2
          have HX2 := Lib.hid hI.2.2
          clear hK hall hI hI2
          subst h8
          simp only [over, Act.put, List.setIfInBounds_toArray, List.set_cons_zero, List.set_cons_succ, List.length_cons, List.length_nil, Nat.zero_add, Nat.reduceAdd, List.drop_succ_cons, List.drop_zero]
          gi_wp2
          go_wp2_with fail
          go_roundg (gk - s)
          case measure => omega
          case rel => exact ⟨j + s, tl', by have := HJ.out; omega, by rw [HBP2.out]; go_num, by omega, HTL.out, by rw [HC2.out]; exact HI2.out, HX2.out⟩
      · have hje : j = c := by have := HJ.out; omega
        have hbn : bp = n := by rw [← HBPJ.out, hje, Nat.mul_comm]; exact HNN.out
        have HRES := Lib.hid (show Own w.heap.size wr.heap.size wr (.slice (some ⟨g, 0, none⟩) n n) (repL l c) from by
          have hlen : (repL l c).length = n := by rw [repL_length, Nat.mul_comm]; exact HNN.out
          refine ⟨_, n, by rw [hlen], by rw [hlen]; exact Nat.le_refl _, by unfold maxLen; omega, .inr ⟨g, 0, rfl, by have := HG.out; omega, ?_, fun i hi => ⟨?_, ?_⟩⟩⟩
          · exact (Array.getElem?_eq_some_iff.1 HGC.out).1
          · rw [Nat.zero_add]
            unfold World.cell?
            simp only [HGC.out]
            have h2 : cur = bcells (repL l c) ++ tl := by rw [← HCUR.out, hje]
            rw [h2]
            have h3 : i < (bcells (repL l c)).length := by rw [bcells_length]; exact hi
            simp only [List.getElem?_toArray, List.getElem?_append_left h3]
            simp [bcells, hi]
          · unfold World.frozen?
            simp [HGC.out])
        have hbnI : ¬ (bp : Int) < (n : Int) := by omega
        clear hje
        go_wp2_with fail
        go_ret
        exact ⟨_, rfl, HRES.out, HX.out⟩
end Go.Proofs.Ytlgoeiofachohaa
