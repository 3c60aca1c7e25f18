/- The walk of unicode.SimpleFold, where its three tables hold what the program's text lays. -/
import Derived.Test.YtiahholgpbjjfaaDoorFoldQ
import Derived.Test.YtiahholgpbjjfaaDoorLayF
import Derived.Test.YtiahholgpbjjfaaDoorDec
import Derived.Shelf.Unicode.CaseLaid
import Derived.Deep.DeepCutAuto
namespace Go.Proofs.YtiahholgpbjjfaaDoor
open Go.RowKit Go.Shelf Go.Lib

/-- The three tables of simple case folding. -/
structure CaseW (w : World) : Prop where
  ascii : ∀ i, i < 128 → w.cell? ⟨0, i, none⟩ = some (.int .u16 ((asciiL.getD i 0 : Nat) : Int))
  orbit : ∃ R o c, w.cell? ⟨1, 0, none⟩ = some (.slice (some ⟨R, o, none⟩) 94 c) ∧ ∀ i, i < 94 → w.cell? ⟨R, o + i * 2, none⟩ = some (.int .u16 ((orbA.getD i (0, 0)).1 : Int)) ∧ w.cell? ⟨R, o + i * 2 + 1, none⟩ = some (.int .u16 ((orbA.getD i (0, 0)).2 : Int))
  ranges : CaseVar 2 caseA w
theorem CaseW.ext {w w' : World} (h : CaseW w) (x : Ext w w') : CaseW w' := by
  obtain ⟨h1, ⟨R, o, c, h2, h3⟩, ⟨R', o', c', h4, h5⟩⟩ := h
  refine ⟨fun i hi => x.cell (h1 i hi), ⟨R, o, c, x.cell h2, fun i hi => ⟨x.cell (h3 i hi).1, x.cell (h3 i hi).2⟩⟩, ⟨R', o', c', x.cell h4, fun i hi => ?_⟩⟩
  obtain ⟨a, b, c, d, e⟩ := h5 i hi
  exact ⟨x.cell a, x.cell b, x.cell c, x.cell d, x.cell e⟩

theorem caseTab_ext {w w' : World} {R o : Nat} {T : Array CaseRow} (h : CaseTab R o T w) (x : Ext w w') : CaseTab R o T w' := by
  intro i hi
  obtain ⟨a, b, c, d, e⟩ := h i hi
  exact ⟨x.cell a, x.cell b, x.cell c, x.cell d, x.cell e⟩
theorem orbA_size : orbA.size = 94 := by kernel_rfl
set_option maxRecDepth 100000 in
theorem chk_small : ((List.range 128).all fun i => decide (asciiL.getD i 0 < 65536)) = true := by kernel_rfl
theorem ascii_small {i : Nat} (h : i < 128) : asciiL.getD i 0 < 65536 := of_decide_eq_true (List.all_eq_true.1 chk_small i (List.mem_range.2 h))
set_option maxRecDepth 100000 in
theorem chk_smallO : (orbT.all fun p => decide (p.1 < 65536) && decide (p.2 < 65536)) = true := by kernel_rfl
theorem orb_small {i : Nat} (h : i < 94) : (orbA.getD i (0, 0)).1 < 65536 ∧ (orbA.getD i (0, 0)).2 < 65536 := by
  have := List.all_eq_true.1 chk_smallO _ (orbA_mem (by rw [orbA_size]; exact h))
  simpa using this

theorem foldS_ascii {n : Nat} (h : n < 128) : foldS (n : Int) = ((asciiL.getD n 0 : Nat) : Int) := by
  unfold foldS
  rw [if_neg (by omega), if_pos (by omega), Int.toNat_natCast]

set_option maxRecDepth 100000 in
set_option maxHeartbeats 2000000 in
theorem unicode_SimpleFold (n : Nat) (hn : n ≤ 1114111) (w : World) (h : CaseW w) : Calls Tryd.prog 27 #[.int .i32 (n : Int)] w (RetV (.int .i32 (foldS n)) w) := by
  obtain ⟨hA, ⟨R, o, c, hO, hOT⟩, hV⟩ := h
  have q0 : ¬ (n : Int) < 0 := by omega
  have q1 : ¬ (1114111 : Int) < (n : Int) := by omega
  by_cases h1 : n < 128
  · have c0 := hA n h1
    have hs := ascii_small h1
    have HF := Lib.hid (foldS_ascii h1)
    obtain ⟨V, hVv⟩ : ∃ V, asciiL.getD n 0 = V := ⟨_, rfl⟩
    rw [hVv] at c0 hs HF
    have q2 : (n : Int) < 128 := by omega
    clear hVv hA hO hOT hV
    go_enter Tryd.func27, Tryd.ntmps27
    go_wp2_with fail
    go_ret
    exact ⟨by rw [HF.out]; rfl, Ext.refl _⟩
  have q2 : ¬ (n : Int) < 128 := by omega
  clear hA
  obtain ⟨ANS, hANS⟩ : ∃ ANS, orbLo n (orbA.size + 1) 0 orbA.size = ANS := ⟨_, rfl⟩
  have HANS := Lib.hid hANS
  rw [orbA_size] at hANS
  go_enter Tryd.func27, Tryd.ntmps27
  go_wp2_with fail
  go_loopg [3, 4] 95 (fun g s3 s4 wx => w = wx ∧ ∃ lo hi : Nat, s3 = .int .i64 (lo : Int) ∧ s4 = .int .i64 (hi : Int) ∧ lo ≤ hi ∧ hi ≤ 94 ∧ hi - lo < g ∧ orbLo n g lo hi = ANS)
  case atStart => exact ⟨rfl, 0, 94, rfl, rfl, by omega, by omega, by omega, hANS⟩
  case round =>
    obtain ⟨rfl, lo, hi, rfl, rfl, hlh, hhn, hg, hl⟩ := hrel
    clear hANS
    by_cases hlt : lo < hi
    · obtain ⟨g', rfl⟩ : ∃ g', gk = g' + 1 := ⟨gk - 1, by omega⟩
      have hz : (lo : Int) < (hi : Int) := by omega
      obtain ⟨m, hm⟩ : ∃ m, (lo + hi) / 2 = m := ⟨_, rfl⟩
      have hmr : lo ≤ m ∧ m < hi := by omega
      have hmz : ((lo : Int) + (hi : Int)) / 2 = (m : Int) := by omega
      obtain ⟨c0, _⟩ := hOT m (by omega)
      have hs := (orb_small (show m < 94 by omega)).1
      simp only [orbLo, hlt, if_true, hm] at hl
      obtain ⟨F, hF⟩ : ∃ F, (orbA.getD m (0, 0)).1 = F := ⟨_, rfl⟩
      rw [hF] at c0 hs hl
      have HOT := Lib.hid hOT
      have HV := Lib.hid hV
      clear hOT hV hF
      by_cases hb : F < n
      · rw [if_pos hb] at hl
        have hbz : (F : Int) < (n : Int) := by omega
        clear hb
        go_wp2_with fail
        go_roundg g'
        case measure => omega
        case rel => exact ⟨rfl, m + 1, hi, by first | rfl | simp, rfl, by omega, by omega, by omega, hl⟩
      · rw [if_neg hb] at hl
        have hbz : ¬ (F : Int) < (n : Int) := by omega
        clear hb
        go_wp2_with fail
        go_roundg g'
        case measure => omega
        case rel => exact ⟨rfl, lo, m, rfl, rfl, by omega, by omega, by omega, hl⟩
    · have hz : ¬ ((lo : Int) < (hi : Int)) := by omega
      have hla : lo = ANS := by rw [← hl]; cases gk <;> simp [orbLo, hlt]
      subst hla
      clear hl hlt
      obtain ⟨R', oR, cap, hg', hT⟩ := hV
      have HT := Lib.hid hT
      clear hT
      -- what the orbits' table tells
      have key : (∃ F T, lo < 94 ∧ F = n ∧ (orbA.getD lo (0, 0)).1 = F ∧ (orbA.getD lo (0, 0)).2 = T ∧ orbF n = some T) ∨
          (orbF n = none ∧ (¬ lo < 94 ∨ ∃ F, lo < 94 ∧ F ≠ n ∧ (orbA.getD lo (0, 0)).1 = F)) := by
        unfold orbF
        rw [HANS.out, orbA_size]
        by_cases k1 : lo < 94
        · by_cases k2 : (orbA.getD lo (0, 0)).1 = n
          · left
            exact ⟨_, _, k1, rfl, k2, rfl, by rw [if_pos ⟨k1, k2⟩]⟩
          · right
            exact ⟨by rw [if_neg (fun k => k2 k.2)], .inr ⟨_, k1, k2, rfl⟩⟩
        · right
          exact ⟨by rw [if_neg (fun k => k1 k.1)], .inl k1⟩
      rcases key with ⟨F, T, k1, rfl, k2, k3, k4⟩ | ⟨k4, k5⟩
      · obtain ⟨c0, c1⟩ := hOT lo k1
        have hs := orb_small k1
        rw [k2] at c0
        rw [k3] at c1 hs
        have hs2 := hs.2
        have HF := Lib.hid (foldS_some hn (by omega) k4)
        have e1 : ((F : Int) == (F : Int)) = true := by simp
        have hz2 : (lo : Int) < 94 := by omega
        have hs1 : F < 65536 := by rw [k2] at hs; exact hs.1
        clear k2 k3 k4 hOT hs HANS
        go_wp2_with fail
        go_ret
        exact ⟨by rw [HF.out]; rfl, Ext.refl _⟩
      · have cL : Calls Tryd.prog 33 #[.int .i32 (n : Int), .slice (some ⟨R', oR, none⟩) caseA.size cap] w fun e w' =>
            e = .returned (match lookupIdx caseA (n : Int) (caseA.size + 1) 0 caseA.size with | some i => .pointer (some ⟨R', oR + i * 5, none⟩) | none => .pointer none) ∧ w' = w :=
          Any.unicode_lookupCaseRange Tryd.lays274 caseA R' oR cap n w HT.out caseA_ok2.ok (by rw [caseA_size]; omega)
        rw [lookN_eq] at cL
        have kk : ∃ tst : Bool, tst = false ∧ ((¬ lo < 94 ∧ decide ((lo : Int) < 94) = false) ∨ ∃ F : Nat, lo < 94 ∧ decide ((lo : Int) < 94) = true ∧ ((F : Int) == (n : Int)) = false ∧ w.cell? ⟨R, o + lo * 2, none⟩ = some (.int .u16 (F : Int)) ∧ F < 65536) := by
          refine ⟨false, rfl, ?_⟩
          rcases k5 with k5 | ⟨F, k6, k7, k8⟩
          · exact .inl ⟨k5, by simp; omega⟩
          · refine .inr ⟨F, k6, by simp; omega, by rw [beq_eq_false_iff_ne]; omega, ?_, ?_⟩
            · rw [← k8]; exact (hOT lo k6).1
            · rw [← k8]; exact (orb_small k6).1
        obtain ⟨_, _, kk⟩ := kk
        clear hOT HANS k5
        have HK4 := Lib.hid k4
        clear k4
        cases hl : lookN n (caseA.size + 1) 0 caseA.size with
        | none =>
          have HF := Lib.hid (foldS_none hn (by omega) HK4.out hl)
          rw [hl] at cL
          clear hl
          have cL' : Calls Tryd.prog 33 #[.int .i32 (n : Int), .slice (some ⟨R', oR, none⟩) caseA.size cap] w fun e w' => e = .returned (.pointer none) ∧ w' = w := cL
          clear cL
          rcases kk with ⟨_, kz⟩ | ⟨F, _, kz, ke, c0, hs⟩
          · go_wp2_with (go_at_call 33; refine cL'.mono ?_; rintro _ _ ⟨rfl, rfl⟩)
            go_ret
            exact ⟨by rw [HF.out]; rfl, Ext.refl _⟩
          · go_wp2_with (go_at_call 33; refine cL'.mono ?_; rintro _ _ ⟨rfl, rfl⟩)
            go_ret
            exact ⟨by rw [HF.out]; rfl, Ext.refl _⟩
        | some i =>
          have HF := Lib.hid (foldS_row hn (by omega) HK4.out hl)
          obtain ⟨hi1, hi2, hi3⟩ := lookN_some n _ _ _ i hl
          have hrf := caseA_row i hi1
          have hok := caseA_ok2 i hi1
          have hcl : ∀ c : Nat, c < 3 → ∀ W, Ext w W → Calls Tryd.prog 34 #[.int .i64 (c : Int), .int .i32 (n : Int), .pointer (some ⟨R', oR + i * 5, none⟩)] W (RetV (.int .i32 (convertR c n (rowAt i))) W) := fun c hc W x => by
            have hTW := caseTab_ext HT.out x
            have h1 := Any.unicode_convertCase Tryd.lays275 c hc n R' (oR + i * 5) (rowAt i) W (by omega) (by omega) hok.2 (hTW i hi1).1 (CaseTab.delta hTW i hi1 c hc)
            rw [show RowKit.wrap32 (convertR c n (rowAt i)) = convertR c n (rowAt i) from convert_fits (rowAt i) hrf c hc n (Int.ofNat_le.2 hi2) (Int.ofNat_le.2 hi3)] at h1
            exact h1.mono fun _ _ ⟨he, q, hw⟩ => ⟨he, by rw [hw]; exact Ext.drewN _ _⟩
          rw [hl] at cL
          clear hl
          have cL' : Calls Tryd.prog 33 #[.int .i32 (n : Int), .slice (some ⟨R', oR, none⟩) caseA.size cap] w fun e w' => e = .returned (.pointer (some ⟨R', oR + i * 5, none⟩)) ∧ w' = w := cL
          have c1 := hcl 1 (by omega) w (Ext.refl _)
          have c2 := hcl 0 (by omega)
          clear cL hcl hrf hok hi2 hi3
          obtain ⟨V1, hV1⟩ : ∃ V, convertR 1 n (rowAt i) = V := ⟨_, rfl⟩
          obtain ⟨V0, hV0⟩ : ∃ V, convertR 0 n (rowAt i) = V := ⟨_, rfl⟩
          rw [hV1, hV0] at HF
          rw [hV1] at c1
          rw [hV0] at c2
          clear hV1 hV0 HT HK4
          by_cases hne : V1 = n
          · have HF2 := Lib.hid (show foldS n = V0 by rw [HF.out, if_neg (fun k => k hne)])
            have ht : (V1 != (n : Int)) = false := by rw [bne_eq_false_iff_eq]; exact hne
            clear hne HF
            rcases kk with ⟨_, kz⟩ | ⟨F, _, kz, ke, c0, hs⟩
            · go_wp2_with (go_at_call 33; refine cL'.mono ?_; rintro _ _ ⟨rfl, rfl⟩)
              go_wp2_with (go_at_call 34; refine c1.mono ?_)
              rintro _ w2 ⟨rfl, x2⟩
              go_wp2_with (go_at_call 34; refine (c2 _ x2).mono ?_)
              rintro _ w3 ⟨rfl, x3⟩
              go_wp2_with fail
              go_ret
              exact ⟨by rw [HF2.out]; rfl, x2.trans x3⟩
            · go_wp2_with (go_at_call 33; refine cL'.mono ?_; rintro _ _ ⟨rfl, rfl⟩)
              go_wp2_with (go_at_call 34; refine c1.mono ?_)
              rintro _ w2 ⟨rfl, x2⟩
              go_wp2_with (go_at_call 34; refine (c2 _ x2).mono ?_)
              rintro _ w3 ⟨rfl, x3⟩
              go_wp2_with fail
              go_ret
              exact ⟨by rw [HF2.out]; rfl, x2.trans x3⟩
          · have HF2 := Lib.hid (show foldS n = V1 by rw [HF.out, if_pos hne])
            have ht : (V1 != (n : Int)) = true := by rw [bne_iff_ne]; exact hne
            clear hne HF
            rcases kk with ⟨_, kz⟩ | ⟨F, _, kz, ke, c0, hs⟩
            · go_wp2_with (go_at_call 33; refine cL'.mono ?_; rintro _ _ ⟨rfl, rfl⟩)
              go_wp2_with (go_at_call 34; refine c1.mono ?_)
              rintro _ w2 ⟨rfl, x2⟩
              go_wp2_with fail
              go_ret
              exact ⟨by rw [HF2.out]; rfl, x2⟩
            · go_wp2_with (go_at_call 33; refine cL'.mono ?_; rintro _ _ ⟨rfl, rfl⟩)
              go_wp2_with (go_at_call 34; refine c1.mono ?_)
              rintro _ w2 ⟨rfl, x2⟩
              go_wp2_with fail
              go_ret
              exact ⟨by rw [HF2.out]; rfl, x2⟩
end Go.Proofs.YtiahholgpbjjfaaDoor
