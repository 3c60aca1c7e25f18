/- bytes.makeASCIISet, Trim, TrimLeft, TrimRight, over any program that has the bodies that the shelf knows: for every cutset. The shelf's proofs turned. Printed by cuta.py. -/
import Derived.Test.YtdlobdbclgcogaaDoorFunc2
import Derived.Shelf.Bytes.SlTrim
namespace Go.Proofs.YtdlobdbclgcogaaDoor
open Go.Shelf Go.RowKit
variable {P : Program} {ρ : Ren}

set_option maxHeartbeats 4000000 in
set_option maxRecDepth 1000000 in
theorem any_mkSet (L : SlLaysV.n11 P ρ) (hv27 : ∀ w, (zeroValue (ρ.t 27)).run P w = .ok (.agg (Array.replicate 256 (.bool false))) w) (hi27 : (P.info? (ρ.t 27)).map (·.size) = some 256) (chars : ByteArray) (w : World) (hs : chars.size ≤ 4611686018427387904)
    (hascii : ∀ (j : Nat) b, chars.data.toList[j]? = some b → b.toNat < 128) :
    Calls P (ρ.f 11) #[.string chars] w fun e w' => e = .returned (.tuple #[.agg (Lib.setCells chars.data.toList), .bool true]) ∧ w' = w.alloc (.cells (Lib.setCells chars.data.toList) (ρ.t 27)) := by
  have HA := Lib.hid hascii
  clear hascii
  have t3 := L.t3; have a3 := L.a3; have z3 := L.z3; have v3 := L.v3
  have t4 := L.t4; have a4 := L.a4; have z4 := L.z4; have v4 := L.v4
  have t5 := L.t5; have a5 := L.a5; have z5 := L.z5; have v5 := L.v5
  have t9 := L.t9; have a9 := L.a9; have z9 := L.z9; have v9 := L.v9
  have t27 := L.t27
  go_enter L.f11, SlBodyV.n11_ntmps ρ
  go_wp2
  rw [← Lib.setCells_nil]
  go_loopg [4] chars.size (fun g s4 wx => ∃ i : Nat, i + g = chars.size ∧ s4 = .int .i64 i ∧ wx = w.alloc (.cells (Lib.setCells (chars.data.toList.take i)) (ρ.t 27)))
  case atStart => exact ⟨0, by omega, rfl, rfl⟩
  case round =>
    obtain ⟨i, hig, rfl, rfl⟩ := hrel
    cases gk with
    | zero =>
      obtain rfl : i = chars.size := by omega
      have hiz : ¬ ((chars.size : Int) < (chars.size : Int)) := by omega
      rw [show chars.data.toList.take chars.size = chars.data.toList from List.take_of_length_le (by rw [← Lib.size_eq]; exact Nat.le_refl _)]
      have hld := run_loadVar_new (P := P) w (ρ.t 27) (Lib.setCells chars.data.toList) 256 (ρ.t 4) L.t27 (by rw [Lib.setCells_size]; exact hi27)
      have hsz := Lib.setCells_size chars.data.toList
      have hlc := run_loadCellsFrom_new (P := P) w (ρ.t 27) (Lib.setCells chars.data.toList) 256 hsz
      have hsc := run_storeCells_new (P := P) w (ρ.t 27) (Lib.setCells chars.data.toList) (Lib.setCells chars.data.toList) (by rw [hsz]; exact hi27) rfl (Lib.setCells_one _)
      go_wp2
      simp only [L.a27, L.z27, Result.andThen, ↓reduceIte, hlc]
      rw [Oper.upon_value]
      go_wp2
      simp only [L.z27, Result.andThen, ↓reduceIte, hsc]
      rw [Oper.upon_skip]
      go_wp2
      (try simp only [Exit.inBlock, Exit.then])
      refine bodyPost_ret (v := .tuple #[.agg (Lib.setCells chars.data.toList), .bool true]) ?_ rfl ⟨rfl, rfl⟩
      rw [results_cell_tmp rfl]
      simp [asAddr, Result.andThen, hld]
    | succ g =>
      have hi : i < chars.size := by omega
      have hiz : (i : Int) < (chars.size : Int) := by omega
      obtain ⟨x, hx⟩ : ∃ x : UInt8, chars[i]'hi = x := ⟨_, rfl⟩
      have hxl : chars.data.toList[i]? = some x := by rw [← hx]; exact Lib.data_getElem? chars i hi
      have hx128 : ¬ ((128 : Int) ≤ (x.toNat : Int)) := by have := HA.out i x hxl; omega
      have hx256 : (x.toNat : Int) < 256 := by have := HA.out i x hxl; omega
      have hcell := Lib.setCells_at (chars.data.toList.take i) x
      have Hx := Lib.hid hxl
      clear hxl
      go_wp2
      go_roundg g
      case measure => omega
      case rel => exact ⟨i + 1, by omega, by first | rfl | simp, by rw [List.take_add_one, Hx.out]; simp only [Option.toList]; rw [Lib.setCells_snoc]⟩

set_option maxHeartbeats 4000000 in
set_option maxRecDepth 1000000 in
theorem any_mkSet_no (L : SlLaysV.n11 P ρ) (hv27 : ∀ w, (zeroValue (ρ.t 27)).run P w = .ok (.agg (Array.replicate 256 (.bool false))) w) (hi27 : (P.info? (ρ.t 27)).map (·.size) = some 256) (chars : ByteArray) (w : World) (hs : chars.size ≤ 4611686018427387904)
    (K : Nat) (y : UInt8) (hy : chars.data.toList[K]? = some y) (h128 : 128 ≤ y.toNat) (hascii : ∀ (j : Nat) b, j < K → chars.data.toList[j]? = some b → b.toNat < 128) :
    Calls P (ρ.f 11) #[.string chars] w fun e w' => e = .returned (.tuple #[.agg (Lib.setCells (chars.data.toList.take K)), .bool false]) ∧ w' = w.alloc (.cells (Lib.setCells (chars.data.toList.take K)) (ρ.t 27)) := by
  have HA := Lib.hid hascii
  clear hascii
  have hKs : K < chars.size := by
    obtain ⟨h, _⟩ := List.getElem?_eq_some_iff.1 hy
    rw [← Lib.size_eq] at h
    exact h
  have HY := Lib.hid hy
  have H128 := Lib.hid h128
  clear hy h128
  have t3 := L.t3; have a3 := L.a3; have z3 := L.z3; have v3 := L.v3
  have t4 := L.t4; have a4 := L.a4; have z4 := L.z4; have v4 := L.v4
  have t5 := L.t5; have a5 := L.a5; have z5 := L.z5; have v5 := L.v5
  have t9 := L.t9; have a9 := L.a9; have z9 := L.z9; have v9 := L.v9
  have t27 := L.t27
  go_enter L.f11, SlBodyV.n11_ntmps ρ
  go_wp2
  rw [← Lib.setCells_nil]
  go_loopg [4] K (fun g s4 wx => ∃ i : Nat, i + g = K ∧ s4 = .int .i64 i ∧ wx = w.alloc (.cells (Lib.setCells (chars.data.toList.take i)) (ρ.t 27)))
  case atStart => exact ⟨0, by omega, rfl, rfl⟩
  case round =>
    obtain ⟨i, hig, rfl, rfl⟩ := hrel
    cases gk with
    | zero =>
      obtain rfl : i = K := by omega
      have hKs : i < chars.size := by
        obtain ⟨h, _⟩ := List.getElem?_eq_some_iff.1 HY.out
        rw [← Lib.size_eq] at h
        exact h
      have hiz : (i : Int) < (chars.size : Int) := by omega
      have hgy : chars[i]'hKs = y := by
        have := Lib.data_getElem? chars i hKs
        rw [HY.out] at this
        injection this with this
        exact this.symm
      have hx128 : (128 : Int) ≤ (y.toNat : Int) := by have := H128.out; omega
      have hld := run_loadVar_new (P := P) w (ρ.t 27) (Lib.setCells (chars.data.toList.take i)) 256 (ρ.t 4) L.t27 (by rw [Lib.setCells_size]; exact hi27)
      have hsz := Lib.setCells_size (chars.data.toList.take i)
      have hlc := run_loadCellsFrom_new (P := P) w (ρ.t 27) (Lib.setCells (chars.data.toList.take i)) 256 hsz
      have hsc := run_storeCells_new (P := P) w (ρ.t 27) (Lib.setCells (chars.data.toList.take i)) (Lib.setCells (chars.data.toList.take i)) (by rw [hsz]; exact hi27) rfl (Lib.setCells_one _)
      go_wp2
      simp only [L.a27, L.z27, Result.andThen, ↓reduceIte, hlc]
      rw [Oper.upon_value]
      go_wp2
      simp only [L.z27, Result.andThen, ↓reduceIte, hsc]
      rw [Oper.upon_skip]
      go_wp2
      (try simp only [Exit.inBlock, Exit.then])
      refine bodyPost_ret (v := .tuple #[.agg (Lib.setCells (chars.data.toList.take i)), .bool false]) ?_ rfl ⟨rfl, rfl⟩
      rw [results_cell_tmp rfl]
      simp [asAddr, Result.andThen, hld]
    | succ g =>
      have hi : i < chars.size := by omega
      have hiz : (i : Int) < (chars.size : Int) := by omega
      obtain ⟨x, hx⟩ : ∃ x : UInt8, chars[i]'hi = x := ⟨_, rfl⟩
      have hxl : chars.data.toList[i]? = some x := by rw [← hx]; exact Lib.data_getElem? chars i hi
      have hx128 : ¬ ((128 : Int) ≤ (x.toNat : Int)) := by have := HA.out i x (by omega) hxl; omega
      have hx256 : (x.toNat : Int) < 256 := by have := HA.out i x (by omega) hxl; omega
      have hcell := Lib.setCells_at (chars.data.toList.take i) x
      have Hx := Lib.hid hxl
      clear hxl
      go_wp2
      go_roundg g
      case measure => omega
      case rel => exact ⟨i + 1, by omega, by first | rfl | simp, by rw [List.take_add_one, Hx.out]; simp only [Option.toList]; rw [Lib.setCells_snoc]⟩

set_option maxHeartbeats 8000000 in
set_option maxRecDepth 1000000 in
theorem any_TrimRight_set (L : SlLaysV.n7 P ρ) (hv27 : ∀ w, (zeroValue (ρ.t 27)).run P w = .ok (.agg (Array.replicate 256 (.bool false))) w) (hi27 : (P.info? (ρ.t 27)).map (·.size) = some 256) (p : Option Addr) (n c : Nat) (bs : List UInt8) (cutset : ByteArray) (w : World)
    (hb : bs.length = n) (hnc : n ≤ c) (hbig : c ≤ 9223372036854775807) (h1 : Lib.BytesAt w p n bs) (h2 : 2 ≤ cutset.size) (h0 : 0 < n) (hcs : cutset.size ≤ 4611686018427387904) (hascii : ∀ (j : Nat) b, cutset.data.toList[j]? = some b → b.toNat < 128) :
    Calls P (ρ.f 7) #[.slice p n c, .string cutset] w fun e w' => e = .returned (.slice p (Lib.trimRightS bs cutset.data.toList).length c) ∧ w' = ((w.alloc (.cells (Lib.setCells cutset.data.toList) (ρ.t 27))).alloc (.cells (Lib.setCells cutset.data.toList) (ρ.t 27))) := by
  have hM := any_mkSet { L with } hv27 hi27 cutset w hcs hascii
  clear hascii
  have hemp : cutset.toList.isEmpty = false := by
    rw [Lib.toList_data]
    cases h : cutset.data.toList with
    | nil => have := Lib.size_eq cutset; rw [h, List.length_nil] at this; omega
    | cons _ _ => rfl
  have hn0 : ((n : Int) == 0) = false := beq_eq_false_iff_ne.2 (by omega)
  have hsc : (storeCells ⟨w.heap.size + 1, 0, none⟩ (Lib.setCells cutset.data.toList).toList 0).run P ((w.alloc (.cells (Lib.setCells cutset.data.toList) (ρ.t 27))).alloc (.cells (Array.replicate 256 (.bool false)) (ρ.t 27))) = .ok () ((w.alloc (.cells (Lib.setCells cutset.data.toList) (ρ.t 27))).alloc (.cells (Lib.setCells cutset.data.toList) (ρ.t 27))) := by
    have := run_storeCells_new (P := P) (w.alloc (.cells (Lib.setCells cutset.data.toList) (ρ.t 27))) (ρ.t 27) (Array.replicate 256 (.bool false)) (Lib.setCells cutset.data.toList) (by rw [Lib.setCells_size]; exact hi27) (by rw [Lib.setCells_size, Array.size_replicate]) (Lib.setCells_one _)
    simpa using this
  have hsz := Lib.setCells_size cutset.data.toList
  have hn1 : ((cutset.size : Int) == 1) = false := beq_eq_false_iff_ne.2 (by omega)
  have hcellAt : ∀ x : UInt8, ((w.alloc (.cells (Lib.setCells cutset.data.toList) (ρ.t 27))).alloc (.cells (Lib.setCells cutset.data.toList) (ρ.t 27))).cell? ⟨w.heap.size + 1, x.toNat, none⟩ = some (.bool (cutset.data.toList.contains x)) := fun x => by
    rw [World.cell?_alloc_at _ _ _ _ (by simp), Lib.setCells_at]
  have hB2 : Below w.heap.size w ((w.alloc (.cells (Lib.setCells cutset.data.toList) (ρ.t 27))).alloc (.cells (Lib.setCells cutset.data.toList) (ρ.t 27))) := ((Below.refl _ _).alloc (Nat.le_refl _) _).alloc (by simp) _
  have h1' := h1.below hB2
  clear h1 hB2
  have mixed := L.mixed; have t0 := L.t0; have a0 := L.a0; have z0 := L.z0; have v0 := L.v0; have t3 := L.t3; have a3 := L.a3; have z3 := L.z3; have v3 := L.v3; have t4 := L.t4; have a4 := L.a4; have z4 := L.z4; have v4 := L.v4; have t5 := L.t5; have a5 := L.a5; have z5 := L.z5; have v5 := L.v5; have t9 := L.t9; have a9 := L.a9; have z9 := L.z9; have v9 := L.v9; have t21 := L.t21; have a21 := L.a21; have z21 := L.z21; have v21 := L.v21; have t22 := L.t22; have a22 := L.a22; have z22 := L.z22; have v22 := L.v22; have t27 := L.t27; have t31 := L.t31; have a31 := L.a31; have z31 := L.z31; have v31 := L.v31
  have u0 := run_underlying L.t0; have u3 := run_underlying L.t3; have u4 := run_underlying L.t4; have u5 := run_underlying L.t5; have u9 := run_underlying L.t9; have u21 := run_underlying L.t21; have u22 := run_underlying L.t22; have u27 := run_underlying L.t27; have u31 := run_underlying L.t31
  have e11 : ∀ args w, (callFunc (ρ.f 11) args).run P w = .ok (.enter (ρ.f 11) args) w := enters_of L.f11 (by kernel_rfl) rfl
  have e13 : ∀ args w, (callFunc (ρ.f 13) args).run P w = .ok (.enter (ρ.f 13) args) w := enters_of L.f13 (by kernel_rfl) rfl
  have hT := Any.bytes_trimRightASCII { L with } p n c bs (w.heap.size + 1) cutset.data.toList _ hb hnc (by omega) h1' hcellAt
  clear hcellAt h1'
  go_enter L.f7, SlBodyV.n7_ntmps ρ
  go_wp2_with (go_at_fn (ρ.f 11); refine hM.mono ?_; rintro e w' ⟨rfl, hw⟩; rw [hw])
  simp only [L.z27, Result.andThen, ↓reduceIte, hsc]
  rw [Oper.upon_skip]
  clear hM hsc
  go_wp2_with (go_at_fn (ρ.f 13); refine hT.mono ?_; rintro e w' ⟨rfl, hw⟩; rw [hw])
  go_ret
  exact ⟨rfl, rfl⟩

set_option maxHeartbeats 8000000 in
set_option maxRecDepth 1000000 in
theorem any_TrimRight_uni (L : SlLaysV.n7 P ρ) (hv27 : ∀ w, (zeroValue (ρ.t 27)).run P w = .ok (.agg (Array.replicate 256 (.bool false))) w) (hi27 : (P.info? (ρ.t 27)).map (·.size) = some 256) (p : Option Addr) (n c : Nat) (cutset : ByteArray) (w : World) (h0 : 0 < n) (hcs : cutset.size ≤ 4611686018427387904)
    (K : Nat) (y : UInt8) (hy : cutset.data.toList[K]? = some y) (h128 : 128 ≤ y.toNat) (hascii : ∀ (j : Nat) b, j < K → cutset.data.toList[j]? = some b → b.toNat < 128) (l2 : List UInt8) (hU : ∀ W, Ext w W → Calls P (ρ.f 15) #[.slice p n c, .string cutset] W (RetB W l2)) :
    Calls P (ρ.f 7) #[.slice p n c, .string cutset] w (RetB w l2) := by
  have hKs : K < cutset.size := by
    obtain ⟨h, _⟩ := List.getElem?_eq_some_iff.1 hy
    rw [← Lib.size_eq] at h
    exact h
  have hM := any_mkSet_no { L with } hv27 hi27 cutset w hcs K y hy h128 hascii
  clear hascii
  have hemp : cutset.toList.isEmpty = false := by
    rw [Lib.toList_data]
    cases h : cutset.data.toList with
    | nil => have := Lib.size_eq cutset; rw [h, List.length_nil] at this; omega
    | cons _ _ => rfl
  have hn0 : ((n : Int) == 0) = false := beq_eq_false_iff_ne.2 (by omega)
  have hsc : (storeCells ⟨w.heap.size + 1, 0, none⟩ (Lib.setCells (cutset.data.toList.take K)).toList 0).run P ((w.alloc (.cells (Lib.setCells (cutset.data.toList.take K)) (ρ.t 27))).alloc (.cells (Array.replicate 256 (.bool false)) (ρ.t 27))) = .ok () ((w.alloc (.cells (Lib.setCells (cutset.data.toList.take K)) (ρ.t 27))).alloc (.cells (Lib.setCells (cutset.data.toList.take K)) (ρ.t 27))) := by
    have := run_storeCells_new (P := P) (w.alloc (.cells (Lib.setCells (cutset.data.toList.take K)) (ρ.t 27))) (ρ.t 27) (Array.replicate 256 (.bool false)) (Lib.setCells (cutset.data.toList.take K)) (by rw [Lib.setCells_size]; exact hi27) (by rw [Lib.setCells_size, Array.size_replicate]) (Lib.setCells_one _)
    simpa using this
  have hsz := Lib.setCells_size (cutset.data.toList.take K)
  have x2 : Ext w ((w.alloc (.cells (Lib.setCells (cutset.data.toList.take K)) (ρ.t 27))).alloc (.cells (Lib.setCells (cutset.data.toList.take K)) (ρ.t 27))) := (Ext.alloc _ _).trans (Ext.alloc _ _)
  have mixed := L.mixed; have t0 := L.t0; have a0 := L.a0; have z0 := L.z0; have v0 := L.v0; have t3 := L.t3; have a3 := L.a3; have z3 := L.z3; have v3 := L.v3; have t4 := L.t4; have a4 := L.a4; have z4 := L.z4; have v4 := L.v4; have t5 := L.t5; have a5 := L.a5; have z5 := L.z5; have v5 := L.v5; have t9 := L.t9; have a9 := L.a9; have z9 := L.z9; have v9 := L.v9; have t21 := L.t21; have a21 := L.a21; have z21 := L.z21; have v21 := L.v21; have t22 := L.t22; have a22 := L.a22; have z22 := L.z22; have v22 := L.v22; have t27 := L.t27; have t31 := L.t31; have a31 := L.a31; have z31 := L.z31; have v31 := L.v31
  have u0 := run_underlying L.t0; have u3 := run_underlying L.t3; have u4 := run_underlying L.t4; have u5 := run_underlying L.t5; have u9 := run_underlying L.t9; have u21 := run_underlying L.t21; have u22 := run_underlying L.t22; have u27 := run_underlying L.t27; have u31 := run_underlying L.t31
  have e11 : ∀ args w, (callFunc (ρ.f 11) args).run P w = .ok (.enter (ρ.f 11) args) w := enters_of L.f11 (by kernel_rfl) rfl
  have e15 : ∀ args w, (callFunc (ρ.f 15) args).run P w = .ok (.enter (ρ.f 15) args) w := enters_of L.f15 (by kernel_rfl) rfl
  by_cases h1 : cutset.size = 1
  · have hn1 : ((cutset.size : Int) == 1) = true := beq_iff_eq.2 (by omega)
    have hg0 : (cutset[0]'(by omega)) = y := by
      have hy0 : cutset.data.toList[0]? = some y := by rw [← hy]; congr 1; omega
      have := Lib.data_getElem? cutset 0 (by omega)
      rw [hy0] at this
      injection this with this
      exact this.symm
    have hy1 : ¬ ((y.toNat : Int) < 128) := by omega
    have hs1 : (0 : Int) < (cutset.size : Int) := by omega
    clear hy
    go_enter L.f7, SlBodyV.n7_ntmps ρ
    go_wp2_with (go_at_fn (ρ.f 11); refine hM.mono ?_; rintro e w' ⟨rfl, hw⟩; rw [hw])
    simp only [L.z27, Result.andThen, ↓reduceIte, hsc]
    rw [Oper.upon_skip]
    clear hM hsc
    go_wp2_with (go_at_fn (ρ.f 15); refine (hU _ x2).mono ?_)
    rintro _ w' ⟨v', rfl, b', x'⟩
    go_wp2_with fail
    go_ret
    exact ⟨_, rfl, b', x2.trans x'⟩
  · have hn1 : ((cutset.size : Int) == 1) = false := beq_eq_false_iff_ne.2 (by omega)
    clear hy
    go_enter L.f7, SlBodyV.n7_ntmps ρ
    go_wp2_with (go_at_fn (ρ.f 11); refine hM.mono ?_; rintro e w' ⟨rfl, hw⟩; rw [hw])
    simp only [L.z27, Result.andThen, ↓reduceIte, hsc]
    rw [Oper.upon_skip]
    clear hM hsc
    go_wp2_with (go_at_fn (ρ.f 15); refine (hU _ x2).mono ?_)
    rintro _ w' ⟨v', rfl, b', x'⟩
    go_wp2_with fail
    go_ret
    exact ⟨_, rfl, b', x2.trans x'⟩

set_option maxHeartbeats 8000000 in
set_option maxRecDepth 1000000 in
theorem any_TrimLeft_set (L : SlLaysV.n8 P ρ) (hv27 : ∀ w, (zeroValue (ρ.t 27)).run P w = .ok (.agg (Array.replicate 256 (.bool false))) w) (hi27 : (P.info? (ρ.t 27)).map (·.size) = some 256) (p : Option Addr) (n c : Nat) (bs : List UInt8) (cutset : ByteArray) (w : World)
    (hb : bs.length = n) (hnc : n ≤ c) (hbig : c ≤ 9223372036854775807) (h1 : Lib.BytesAt w p n bs) (h2 : 2 ≤ cutset.size) (h0 : 0 < n) (hcs : cutset.size ≤ 4611686018427387904) (hascii : ∀ (j : Nat) b, cutset.data.toList[j]? = some b → b.toNat < 128) :
    Calls P (ρ.f 8) #[.slice p n c, .string cutset] w fun e w' => e = .returned (Lib.leftV p n c (n - (Lib.trimLeftS bs cutset.data.toList).length)) ∧ w' = ((w.alloc (.cells (Lib.setCells cutset.data.toList) (ρ.t 27))).alloc (.cells (Lib.setCells cutset.data.toList) (ρ.t 27))) := by
  have hM := any_mkSet { L with } hv27 hi27 cutset w hcs hascii
  clear hascii
  have hemp : cutset.toList.isEmpty = false := by
    rw [Lib.toList_data]
    cases h : cutset.data.toList with
    | nil => have := Lib.size_eq cutset; rw [h, List.length_nil] at this; omega
    | cons _ _ => rfl
  have hn0 : ((n : Int) == 0) = false := beq_eq_false_iff_ne.2 (by omega)
  have hsc : (storeCells ⟨w.heap.size + 1, 0, none⟩ (Lib.setCells cutset.data.toList).toList 0).run P ((w.alloc (.cells (Lib.setCells cutset.data.toList) (ρ.t 27))).alloc (.cells (Array.replicate 256 (.bool false)) (ρ.t 27))) = .ok () ((w.alloc (.cells (Lib.setCells cutset.data.toList) (ρ.t 27))).alloc (.cells (Lib.setCells cutset.data.toList) (ρ.t 27))) := by
    have := run_storeCells_new (P := P) (w.alloc (.cells (Lib.setCells cutset.data.toList) (ρ.t 27))) (ρ.t 27) (Array.replicate 256 (.bool false)) (Lib.setCells cutset.data.toList) (by rw [Lib.setCells_size]; exact hi27) (by rw [Lib.setCells_size, Array.size_replicate]) (Lib.setCells_one _)
    simpa using this
  have hsz := Lib.setCells_size cutset.data.toList
  have hn1 : ((cutset.size : Int) == 1) = false := beq_eq_false_iff_ne.2 (by omega)
  have hcellAt : ∀ x : UInt8, ((w.alloc (.cells (Lib.setCells cutset.data.toList) (ρ.t 27))).alloc (.cells (Lib.setCells cutset.data.toList) (ρ.t 27))).cell? ⟨w.heap.size + 1, x.toNat, none⟩ = some (.bool (cutset.data.toList.contains x)) := fun x => by
    rw [World.cell?_alloc_at _ _ _ _ (by simp), Lib.setCells_at]
  have hB2 : Below w.heap.size w ((w.alloc (.cells (Lib.setCells cutset.data.toList) (ρ.t 27))).alloc (.cells (Lib.setCells cutset.data.toList) (ρ.t 27))) := ((Below.refl _ _).alloc (Nat.le_refl _) _).alloc (by simp) _
  have h1' := h1.below hB2
  clear h1 hB2
  have mixed := L.mixed; have t0 := L.t0; have a0 := L.a0; have z0 := L.z0; have v0 := L.v0; have t3 := L.t3; have a3 := L.a3; have z3 := L.z3; have v3 := L.v3; have t4 := L.t4; have a4 := L.a4; have z4 := L.z4; have v4 := L.v4; have t5 := L.t5; have a5 := L.a5; have z5 := L.z5; have v5 := L.v5; have t9 := L.t9; have a9 := L.a9; have z9 := L.z9; have v9 := L.v9; have t21 := L.t21; have a21 := L.a21; have z21 := L.z21; have v21 := L.v21; have t22 := L.t22; have a22 := L.a22; have z22 := L.z22; have v22 := L.v22; have t27 := L.t27; have t31 := L.t31; have a31 := L.a31; have z31 := L.z31; have v31 := L.v31
  have u0 := run_underlying L.t0; have u3 := run_underlying L.t3; have u4 := run_underlying L.t4; have u5 := run_underlying L.t5; have u9 := run_underlying L.t9; have u21 := run_underlying L.t21; have u22 := run_underlying L.t22; have u27 := run_underlying L.t27; have u31 := run_underlying L.t31
  have e11 : ∀ args w, (callFunc (ρ.f 11) args).run P w = .ok (.enter (ρ.f 11) args) w := enters_of L.f11 (by kernel_rfl) rfl
  have e12 : ∀ args w, (callFunc (ρ.f 12) args).run P w = .ok (.enter (ρ.f 12) args) w := enters_of L.f12 (by kernel_rfl) rfl
  have hT := Any.bytes_trimLeftASCII { L with } p n c bs (w.heap.size + 1) cutset.data.toList _ hb hnc hbig h1' hcellAt
  clear hcellAt h1'
  generalize Lib.leftV p n c (n - (Lib.trimLeftS bs cutset.data.toList).length) = r at hT ⊢
  go_enter L.f8, SlBodyV.n8_ntmps ρ
  go_wp2_with (go_at_fn (ρ.f 11); refine hM.mono ?_; rintro e w' ⟨rfl, hw⟩; rw [hw])
  simp only [L.z27, Result.andThen, ↓reduceIte, hsc]
  rw [Oper.upon_skip]
  clear hM hsc
  go_wp2_with (go_at_fn (ρ.f 12); refine hT.mono ?_; rintro e w' ⟨rfl, hw⟩; rw [hw])
  go_ret
  exact ⟨rfl, rfl⟩

set_option maxHeartbeats 8000000 in
set_option maxRecDepth 1000000 in
theorem any_TrimLeft_uni (L : SlLaysV.n8 P ρ) (hv27 : ∀ w, (zeroValue (ρ.t 27)).run P w = .ok (.agg (Array.replicate 256 (.bool false))) w) (hi27 : (P.info? (ρ.t 27)).map (·.size) = some 256) (p : Option Addr) (n c : Nat) (cutset : ByteArray) (w : World) (h0 : 0 < n) (hcs : cutset.size ≤ 4611686018427387904)
    (K : Nat) (y : UInt8) (hy : cutset.data.toList[K]? = some y) (h128 : 128 ≤ y.toNat) (hascii : ∀ (j : Nat) b, j < K → cutset.data.toList[j]? = some b → b.toNat < 128) (l2 : List UInt8) (hU : ∀ W, Ext w W → Calls P (ρ.f 14) #[.slice p n c, .string cutset] W (RetB W l2)) :
    Calls P (ρ.f 8) #[.slice p n c, .string cutset] w (RetB w l2) := by
  have hKs : K < cutset.size := by
    obtain ⟨h, _⟩ := List.getElem?_eq_some_iff.1 hy
    rw [← Lib.size_eq] at h
    exact h
  have hM := any_mkSet_no { L with } hv27 hi27 cutset w hcs K y hy h128 hascii
  clear hascii
  have hemp : cutset.toList.isEmpty = false := by
    rw [Lib.toList_data]
    cases h : cutset.data.toList with
    | nil => have := Lib.size_eq cutset; rw [h, List.length_nil] at this; omega
    | cons _ _ => rfl
  have hn0 : ((n : Int) == 0) = false := beq_eq_false_iff_ne.2 (by omega)
  have hsc : (storeCells ⟨w.heap.size + 1, 0, none⟩ (Lib.setCells (cutset.data.toList.take K)).toList 0).run P ((w.alloc (.cells (Lib.setCells (cutset.data.toList.take K)) (ρ.t 27))).alloc (.cells (Array.replicate 256 (.bool false)) (ρ.t 27))) = .ok () ((w.alloc (.cells (Lib.setCells (cutset.data.toList.take K)) (ρ.t 27))).alloc (.cells (Lib.setCells (cutset.data.toList.take K)) (ρ.t 27))) := by
    have := run_storeCells_new (P := P) (w.alloc (.cells (Lib.setCells (cutset.data.toList.take K)) (ρ.t 27))) (ρ.t 27) (Array.replicate 256 (.bool false)) (Lib.setCells (cutset.data.toList.take K)) (by rw [Lib.setCells_size]; exact hi27) (by rw [Lib.setCells_size, Array.size_replicate]) (Lib.setCells_one _)
    simpa using this
  have hsz := Lib.setCells_size (cutset.data.toList.take K)
  have x2 : Ext w ((w.alloc (.cells (Lib.setCells (cutset.data.toList.take K)) (ρ.t 27))).alloc (.cells (Lib.setCells (cutset.data.toList.take K)) (ρ.t 27))) := (Ext.alloc _ _).trans (Ext.alloc _ _)
  have mixed := L.mixed; have t0 := L.t0; have a0 := L.a0; have z0 := L.z0; have v0 := L.v0; have t3 := L.t3; have a3 := L.a3; have z3 := L.z3; have v3 := L.v3; have t4 := L.t4; have a4 := L.a4; have z4 := L.z4; have v4 := L.v4; have t5 := L.t5; have a5 := L.a5; have z5 := L.z5; have v5 := L.v5; have t9 := L.t9; have a9 := L.a9; have z9 := L.z9; have v9 := L.v9; have t21 := L.t21; have a21 := L.a21; have z21 := L.z21; have v21 := L.v21; have t22 := L.t22; have a22 := L.a22; have z22 := L.z22; have v22 := L.v22; have t27 := L.t27; have t31 := L.t31; have a31 := L.a31; have z31 := L.z31; have v31 := L.v31
  have u0 := run_underlying L.t0; have u3 := run_underlying L.t3; have u4 := run_underlying L.t4; have u5 := run_underlying L.t5; have u9 := run_underlying L.t9; have u21 := run_underlying L.t21; have u22 := run_underlying L.t22; have u27 := run_underlying L.t27; have u31 := run_underlying L.t31
  have e11 : ∀ args w, (callFunc (ρ.f 11) args).run P w = .ok (.enter (ρ.f 11) args) w := enters_of L.f11 (by kernel_rfl) rfl
  have e14 : ∀ args w, (callFunc (ρ.f 14) args).run P w = .ok (.enter (ρ.f 14) args) w := enters_of L.f14 (by kernel_rfl) rfl
  by_cases h1 : cutset.size = 1
  · have hn1 : ((cutset.size : Int) == 1) = true := beq_iff_eq.2 (by omega)
    have hg0 : (cutset[0]'(by omega)) = y := by
      have hy0 : cutset.data.toList[0]? = some y := by rw [← hy]; congr 1; omega
      have := Lib.data_getElem? cutset 0 (by omega)
      rw [hy0] at this
      injection this with this
      exact this.symm
    have hy1 : ¬ ((y.toNat : Int) < 128) := by omega
    have hs1 : (0 : Int) < (cutset.size : Int) := by omega
    clear hy
    go_enter L.f8, SlBodyV.n8_ntmps ρ
    go_wp2_with (go_at_fn (ρ.f 11); refine hM.mono ?_; rintro e w' ⟨rfl, hw⟩; rw [hw])
    simp only [L.z27, Result.andThen, ↓reduceIte, hsc]
    rw [Oper.upon_skip]
    clear hM hsc
    go_wp2_with (go_at_fn (ρ.f 14); refine (hU _ x2).mono ?_)
    rintro _ w' ⟨v', rfl, b', x'⟩
    go_wp2_with fail
    go_ret
    exact ⟨_, rfl, b', x2.trans x'⟩
  · have hn1 : ((cutset.size : Int) == 1) = false := beq_eq_false_iff_ne.2 (by omega)
    clear hy
    go_enter L.f8, SlBodyV.n8_ntmps ρ
    go_wp2_with (go_at_fn (ρ.f 11); refine hM.mono ?_; rintro e w' ⟨rfl, hw⟩; rw [hw])
    simp only [L.z27, Result.andThen, ↓reduceIte, hsc]
    rw [Oper.upon_skip]
    clear hM hsc
    go_wp2_with (go_at_fn (ρ.f 14); refine (hU _ x2).mono ?_)
    rintro _ w' ⟨v', rfl, b', x'⟩
    go_wp2_with fail
    go_ret
    exact ⟨_, rfl, b', x2.trans x'⟩

set_option maxHeartbeats 8000000 in
set_option maxRecDepth 1000000 in
theorem any_Trim_set (L : SlLaysV.n6 P ρ) (hv27 : ∀ w, (zeroValue (ρ.t 27)).run P w = .ok (.agg (Array.replicate 256 (.bool false))) w) (hi27 : (P.info? (ρ.t 27)).map (·.size) = some 256) (p : Option Addr) (n c : Nat) (bs : List UInt8) (cutset : ByteArray) (w : World)
    (hb : bs.length = n) (hnc : n ≤ c) (hbig : c ≤ 9223372036854775807) (h1 : Lib.BytesAt w p n bs) (h2 : 2 ≤ cutset.size) (h0 : 0 < n) (hcs : cutset.size ≤ 4611686018427387904) (hascii : ∀ (j : Nat) b, cutset.data.toList[j]? = some b → b.toNat < 128) :
    Calls P (ρ.f 6) #[.slice p n c, .string cutset] w fun e w' => e = .returned (Lib.leftV p (Lib.trimRightS bs cutset.data.toList).length c ((Lib.trimRightS bs cutset.data.toList).length - (Lib.trimS bs cutset.data.toList).length)) ∧ w' = ((w.alloc (.cells (Lib.setCells cutset.data.toList) (ρ.t 27))).alloc (.cells (Lib.setCells cutset.data.toList) (ρ.t 27))) := by
  have hM := any_mkSet { L with } hv27 hi27 cutset w hcs hascii
  clear hascii
  have hemp : cutset.toList.isEmpty = false := by
    rw [Lib.toList_data]
    cases h : cutset.data.toList with
    | nil => have := Lib.size_eq cutset; rw [h, List.length_nil] at this; omega
    | cons _ _ => rfl
  have hn0 : ((n : Int) == 0) = false := beq_eq_false_iff_ne.2 (by omega)
  have hsc : (storeCells ⟨w.heap.size + 1, 0, none⟩ (Lib.setCells cutset.data.toList).toList 0).run P ((w.alloc (.cells (Lib.setCells cutset.data.toList) (ρ.t 27))).alloc (.cells (Array.replicate 256 (.bool false)) (ρ.t 27))) = .ok () ((w.alloc (.cells (Lib.setCells cutset.data.toList) (ρ.t 27))).alloc (.cells (Lib.setCells cutset.data.toList) (ρ.t 27))) := by
    have := run_storeCells_new (P := P) (w.alloc (.cells (Lib.setCells cutset.data.toList) (ρ.t 27))) (ρ.t 27) (Array.replicate 256 (.bool false)) (Lib.setCells cutset.data.toList) (by rw [Lib.setCells_size]; exact hi27) (by rw [Lib.setCells_size, Array.size_replicate]) (Lib.setCells_one _)
    simpa using this
  have hsz := Lib.setCells_size cutset.data.toList
  have hn1 : ((cutset.size : Int) == 1) = false := beq_eq_false_iff_ne.2 (by omega)
  have hcellAt : ∀ x : UInt8, ((w.alloc (.cells (Lib.setCells cutset.data.toList) (ρ.t 27))).alloc (.cells (Lib.setCells cutset.data.toList) (ρ.t 27))).cell? ⟨w.heap.size + 1, x.toNat, none⟩ = some (.bool (cutset.data.toList.contains x)) := fun x => by
    rw [World.cell?_alloc_at _ _ _ _ (by simp), Lib.setCells_at]
  have hB2 : Below w.heap.size w ((w.alloc (.cells (Lib.setCells cutset.data.toList) (ρ.t 27))).alloc (.cells (Lib.setCells cutset.data.toList) (ρ.t 27))) := ((Below.refl _ _).alloc (Nat.le_refl _) _).alloc (by simp) _
  have h1' := h1.below hB2
  clear h1 hB2
  have mixed := L.mixed; have t0 := L.t0; have a0 := L.a0; have z0 := L.z0; have v0 := L.v0; have t3 := L.t3; have a3 := L.a3; have z3 := L.z3; have v3 := L.v3; have t4 := L.t4; have a4 := L.a4; have z4 := L.z4; have v4 := L.v4; have t5 := L.t5; have a5 := L.a5; have z5 := L.z5; have v5 := L.v5; have t9 := L.t9; have a9 := L.a9; have z9 := L.z9; have v9 := L.v9; have t21 := L.t21; have a21 := L.a21; have z21 := L.z21; have v21 := L.v21; have t22 := L.t22; have a22 := L.a22; have z22 := L.z22; have v22 := L.v22; have t27 := L.t27; have t31 := L.t31; have a31 := L.a31; have z31 := L.z31; have v31 := L.v31
  have u0 := run_underlying L.t0; have u3 := run_underlying L.t3; have u4 := run_underlying L.t4; have u5 := run_underlying L.t5; have u9 := run_underlying L.t9; have u21 := run_underlying L.t21; have u22 := run_underlying L.t22; have u27 := run_underlying L.t27; have u31 := run_underlying L.t31
  have e11 : ∀ args w, (callFunc (ρ.f 11) args).run P w = .ok (.enter (ρ.f 11) args) w := enters_of L.f11 (by kernel_rfl) rfl
  have e12 : ∀ args w, (callFunc (ρ.f 12) args).run P w = .ok (.enter (ρ.f 12) args) w := enters_of L.f12 (by kernel_rfl) rfl
  have e13 : ∀ args w, (callFunc (ρ.f 13) args).run P w = .ok (.enter (ρ.f 13) args) w := enters_of L.f13 (by kernel_rfl) rfl
  have hkn : (Lib.trimRightS bs cutset.data.toList).length ≤ n := by rw [← hb]; exact Lib.trimRightS_len_le _ _
  have hTR := Any.bytes_trimRightASCII { L with } p n c bs (w.heap.size + 1) cutset.data.toList _ hb hnc (by omega) h1' hcellAt
  have hTL := Any.bytes_trimLeftASCII { L with } p (Lib.trimRightS bs cutset.data.toList).length c (bs.take (Lib.trimRightS bs cutset.data.toList).length) (w.heap.size + 1) cutset.data.toList _ (by simp; omega) (by omega) hbig (h1'.take hkn) hcellAt
  rw [← Lib.trimRightS_eq_take] at hTL
  change Calls P _ _ _ (fun e w' => e = .returned (Lib.leftV p (Lib.trimRightS bs cutset.data.toList).length c ((Lib.trimRightS bs cutset.data.toList).length - (Lib.trimS bs cutset.data.toList).length)) ∧ _) at hTL
  clear hcellAt h1'
  generalize Lib.leftV p (Lib.trimRightS bs cutset.data.toList).length c ((Lib.trimRightS bs cutset.data.toList).length - (Lib.trimS bs cutset.data.toList).length) = r at hTL ⊢
  generalize (Lib.trimRightS bs cutset.data.toList).length = k at hTR hTL hkn
  go_enter L.f6, SlBodyV.n6_ntmps ρ
  go_wp2_with (go_at_fn (ρ.f 11); refine hM.mono ?_; rintro e w' ⟨rfl, hw⟩; rw [hw])
  simp only [L.z27, Result.andThen, ↓reduceIte, hsc]
  rw [Oper.upon_skip]
  clear hM hsc
  go_wp2_with (first
    | (go_at_fn (ρ.f 13); refine hTR.mono ?_; rintro e w' ⟨rfl, hw⟩; rw [hw])
    | (go_at_fn (ρ.f 12); refine hTL.mono ?_; rintro e w' ⟨rfl, hw⟩; rw [hw]))
  go_ret
  exact ⟨rfl, rfl⟩

set_option maxHeartbeats 8000000 in
set_option maxRecDepth 1000000 in
theorem any_Trim_uni (L : SlLaysV.n6 P ρ) (hv27 : ∀ w, (zeroValue (ρ.t 27)).run P w = .ok (.agg (Array.replicate 256 (.bool false))) w) (hi27 : (P.info? (ρ.t 27)).map (·.size) = some 256) (p : Option Addr) (n c : Nat) (cutset : ByteArray) (w : World) (h0 : 0 < n) (hcs : cutset.size ≤ 4611686018427387904)
    (K : Nat) (y : UInt8) (hy : cutset.data.toList[K]? = some y) (h128 : 128 ≤ y.toNat) (hascii : ∀ (j : Nat) b, j < K → cutset.data.toList[j]? = some b → b.toNat < 128) (l2 : List UInt8) (l1 : List UInt8) (hU1 : ∀ W, Ext w W → Calls P (ρ.f 15) #[.slice p n c, .string cutset] W (RetB W l1)) (hU2 : ∀ W v, Ext w W → Bs W v l1 → Calls P (ρ.f 14) #[v, .string cutset] W (RetB W l2)) :
    Calls P (ρ.f 6) #[.slice p n c, .string cutset] w (RetB w l2) := by
  have hKs : K < cutset.size := by
    obtain ⟨h, _⟩ := List.getElem?_eq_some_iff.1 hy
    rw [← Lib.size_eq] at h
    exact h
  have hM := any_mkSet_no { L with } hv27 hi27 cutset w hcs K y hy h128 hascii
  clear hascii
  have hemp : cutset.toList.isEmpty = false := by
    rw [Lib.toList_data]
    cases h : cutset.data.toList with
    | nil => have := Lib.size_eq cutset; rw [h, List.length_nil] at this; omega
    | cons _ _ => rfl
  have hn0 : ((n : Int) == 0) = false := beq_eq_false_iff_ne.2 (by omega)
  have hsc : (storeCells ⟨w.heap.size + 1, 0, none⟩ (Lib.setCells (cutset.data.toList.take K)).toList 0).run P ((w.alloc (.cells (Lib.setCells (cutset.data.toList.take K)) (ρ.t 27))).alloc (.cells (Array.replicate 256 (.bool false)) (ρ.t 27))) = .ok () ((w.alloc (.cells (Lib.setCells (cutset.data.toList.take K)) (ρ.t 27))).alloc (.cells (Lib.setCells (cutset.data.toList.take K)) (ρ.t 27))) := by
    have := run_storeCells_new (P := P) (w.alloc (.cells (Lib.setCells (cutset.data.toList.take K)) (ρ.t 27))) (ρ.t 27) (Array.replicate 256 (.bool false)) (Lib.setCells (cutset.data.toList.take K)) (by rw [Lib.setCells_size]; exact hi27) (by rw [Lib.setCells_size, Array.size_replicate]) (Lib.setCells_one _)
    simpa using this
  have hsz := Lib.setCells_size (cutset.data.toList.take K)
  have x2 : Ext w ((w.alloc (.cells (Lib.setCells (cutset.data.toList.take K)) (ρ.t 27))).alloc (.cells (Lib.setCells (cutset.data.toList.take K)) (ρ.t 27))) := (Ext.alloc _ _).trans (Ext.alloc _ _)
  have mixed := L.mixed; have t0 := L.t0; have a0 := L.a0; have z0 := L.z0; have v0 := L.v0; have t3 := L.t3; have a3 := L.a3; have z3 := L.z3; have v3 := L.v3; have t4 := L.t4; have a4 := L.a4; have z4 := L.z4; have v4 := L.v4; have t5 := L.t5; have a5 := L.a5; have z5 := L.z5; have v5 := L.v5; have t9 := L.t9; have a9 := L.a9; have z9 := L.z9; have v9 := L.v9; have t21 := L.t21; have a21 := L.a21; have z21 := L.z21; have v21 := L.v21; have t22 := L.t22; have a22 := L.a22; have z22 := L.z22; have v22 := L.v22; have t27 := L.t27; have t31 := L.t31; have a31 := L.a31; have z31 := L.z31; have v31 := L.v31
  have u0 := run_underlying L.t0; have u3 := run_underlying L.t3; have u4 := run_underlying L.t4; have u5 := run_underlying L.t5; have u9 := run_underlying L.t9; have u21 := run_underlying L.t21; have u22 := run_underlying L.t22; have u27 := run_underlying L.t27; have u31 := run_underlying L.t31
  have e11 : ∀ args w, (callFunc (ρ.f 11) args).run P w = .ok (.enter (ρ.f 11) args) w := enters_of L.f11 (by kernel_rfl) rfl
  have e14 : ∀ args w, (callFunc (ρ.f 14) args).run P w = .ok (.enter (ρ.f 14) args) w := enters_of L.f14 (by kernel_rfl) rfl
  have e15 : ∀ args w, (callFunc (ρ.f 15) args).run P w = .ok (.enter (ρ.f 15) args) w := enters_of L.f15 (by kernel_rfl) rfl
  by_cases h1 : cutset.size = 1
  · have hn1 : ((cutset.size : Int) == 1) = true := beq_iff_eq.2 (by omega)
    have hg0 : (cutset[0]'(by omega)) = y := by
      have hy0 : cutset.data.toList[0]? = some y := by rw [← hy]; congr 1; omega
      have := Lib.data_getElem? cutset 0 (by omega)
      rw [hy0] at this
      injection this with this
      exact this.symm
    have hy1 : ¬ ((y.toNat : Int) < 128) := by omega
    have hs1 : (0 : Int) < (cutset.size : Int) := by omega
    clear hy
    go_enter L.f6, SlBodyV.n6_ntmps ρ
    go_wp2_with (go_at_fn (ρ.f 11); refine hM.mono ?_; rintro e w' ⟨rfl, hw⟩; rw [hw])
    simp only [L.z27, Result.andThen, ↓reduceIte, hsc]
    rw [Oper.upon_skip]
    clear hM hsc
    go_wp2_with (go_at_fn (ρ.f 15); refine (hU1 _ x2).mono ?_)
    rintro _ w' ⟨v', rfl, b', x'⟩
    go_wp2_with (go_at_fn (ρ.f 14); refine (hU2 _ _ (x2.trans x') b').mono ?_)
    rintro _ w3 ⟨v3, rfl, b3, x3⟩
    go_wp2_with fail
    go_ret
    exact ⟨_, rfl, b3, (x2.trans x').trans x3⟩
  · have hn1 : ((cutset.size : Int) == 1) = false := beq_eq_false_iff_ne.2 (by omega)
    clear hy
    go_enter L.f6, SlBodyV.n6_ntmps ρ
    go_wp2_with (go_at_fn (ρ.f 11); refine hM.mono ?_; rintro e w' ⟨rfl, hw⟩; rw [hw])
    simp only [L.z27, Result.andThen, ↓reduceIte, hsc]
    rw [Oper.upon_skip]
    clear hM hsc
    go_wp2_with (go_at_fn (ρ.f 15); refine (hU1 _ x2).mono ?_)
    rintro _ w' ⟨v', rfl, b', x'⟩
    go_wp2_with (go_at_fn (ρ.f 14); refine (hU2 _ _ (x2.trans x') b').mono ?_)
    rintro _ w3 ⟨v3, rfl, b3, x3⟩
    go_wp2_with fail
    go_ret
    exact ⟨_, rfl, b3, (x2.trans x').trans x3⟩

end Go.Proofs.YtdlobdbclgcogaaDoor
