/- The law FnLinesGlue of the thin package over Go's bytes returns true for every input (second form). The row's conditions: none beside the form's own. Printed by frameu.py. -/
import Derived.Test.YtlgoeiofachohaaRows
import Derived.Test.YtlgoeiofachohaaOpenR2
import Derived.Test.YtlgoeiofachohaaFnLinesGlueW
import Derived.Deep.DeepHandedRow
namespace Go.Proofs.Ytlgoeiofachohaa.FnLinesGlue
open Go.ChangeShapes Go.WideShapes Go.ChangeAt Go.RowKit
open Go.ChangeMaps (open_string shut_string)
set_option linter.unusedVariables false

theorem own : ownKnob Try.prog.godebug = none := by kernel_rfl
theorem laidOut : laidOutB Try.prog = true := by kernel_rfl

set_option maxRecDepth 100000 in
theorem contract (H : Type) (enc : TypeId × Value → H) (W : World) (base : Nat) (args : Array Value) (ds gs : List (DataW H)) (before : List MemPlace)
    (hval : ∀ (j : Nat) t v, Try.f4.params[j]? = some t → args[j]? = some v → Value.okWide Try.prog W .any base t v)
    (hW : DataW.Whole enc Try.prog Try.f4.params.toList Rows.fnLinesGlueSpec.vars false W args.toList ds gs before) (hL : laidMetH Try.prog Rows.fnLinesGlueUptoRow.laid W)
    (hsz0 : (DataW.weightsEach Try.prog (Try.f4.params.toList ++ Rows.fnLinesGlueSpec.plain.varTypes Try.prog) (ds ++ gs)).all (· ≤ reachBytes) = true) (hk : Rows.uptoSmall H (ds ++ gs) = true) :
    Calls Try.prog 4 args W fun e W' => ∃ v, e = .returned v ∧ Rows.fnLinesGlueSpec.post enc Try.prog Try.f4 false true false false W args v W' := by
  have hsz := hsz0
  have hW' := hW
  obtain ⟨p, q, hA0, hV, rfl, hfz, hnd⟩ := hW
  have hA : DataW.TrodAll enc Try.prog W 0 (fun _ => true) true Try.f4.params.toList args.toList ds p := hA0
  rw [Try.params4] at hA hval hsz
  obtain ⟨v0, vs0, d0, ds0, p0, q0, hargs, rfl, rfl, h0, r0⟩ := trodAll_cons hA
  obtain ⟨rfl, rfl, rfl⟩ := trodAll_nil r0
  obtain rfl : args = #[v0] := by cases args; simp_all
  obtain ⟨rfl, rfl⟩ := trodVars_none hV
  have k0 := h0
  have lt0 : ∀ x ∈ p0, x.block < W.heap.size := by obtain ⟨m, hm⟩ := k0; exact DataW.trod_lt m _ _ _ hm
  obtain ⟨a0, e0, d0e, _, _⟩ := open_string Try.underlying9 (hval 0 9 v0 rfl rfl) h0
  have z0 : a0.size ≤ 1048576 := bulk_str hk (bytes := a0.data.toList) (by rw [d0e]; simp)
  subst e0
  clear hA0
  refine (FnLinesGlue_walk W a0 z0).mono fun e W' ⟨he, bel⟩ => ?_
  subst he
  exact ⟨_, rfl, _, _, _, [], _, [], hW', trodAll_mk1 (shut_bool Try.underlying4 _), (trodAll_cons_mk (Below.trod laidOut (by kernel_rfl) (of_decide_eq_true (by kernel_rfl)) k0 bel lt0) trodAll_mk0), rfl, bel.frame _, fun h => by cases h⟩

/-- A world for the witness: the tables hold what their text lays. -/
theorem laid_met (os : Os) : laidMetH Try.prog Rows.fnLinesGlueUptoRow.laid ((World.laidAll Try.prog os Rows.fnLinesGlueUptoRow.laid).forCall (fun _ _ => 0) ⟨#[], #[.string ByteArray.empty], []⟩).memory := by
  rw [MakeChecks.laidMetH_plain _ _ _ (by kernel_rfl)]
  exact laidMet_laidAll _ (by kernel_rfl) (by kernel_rfl)
theorem reads (os : Os) {H : Type} (enc : TypeId × Value → H) : ∃ places, DataW.whole enc Try.prog ((World.laidAll Try.prog os Rows.fnLinesGlueUptoRow.laid).forCall (fun _ _ => 0) ⟨#[], #[.string ByteArray.empty], []⟩).memory Try.f4.params.toList Rows.fnLinesGlueSpec.vars false #[.string ByteArray.empty].toList 8 = some ([.lit (.string [])], [], places) :=
  ⟨[], by kernel_rfl⟩

set_option maxRecDepth 100000 in
theorem lifted (os : Os) (started : os.Started) (H : Type) (enc : TypeId × Value → H) (G : Stop.Interp) :
    ReturnsInHanded {} Try.checked os 4 .any ((Rows.OpenSpec.upto Rows.fnLinesGlueSpec).preRow enc Try.prog Try.f4 Rows.fnLinesGlueUptoRow.domain false Rows.fnLinesGlueUptoRow.laid) (((Rows.OpenSpec.upto Rows.fnLinesGlueSpec).at G).post enc Try.prog Try.f4 false true false false) := by
  obtain ⟨places, hx⟩ := reads os enc
  refine returnsInHanded_of_row (C := Try.checked) (s := (Rows.OpenSpec.upto Rows.fnLinesGlueSpec)) own started (by kernel_rfl) Try.func4
    (witness_row_at (enc := enc) (C := Try.checked) false (World.laidAll Try.prog os Rows.fnLinesGlueUptoRow.laid) #[.string ByteArray.empty] (World.laidAll_os _ _ _) (by kernel_rfl) (by kernel_rfl) (by kernel_rfl)
      (OpenSpec.preRow_of_cond 8 hx (by kernel_rfl) (fun k hk => by cases hk; kernel_rfl) (by kernel_rfl) (laid_met os))) ?_
  intro W base args ds gs before hval hW _ hcond hsz hL _ _
  exact contract H enc W base args ds gs before hval hW hL hsz (hcond _ rfl)

theorem said : Rows.FnLinesGlueUptoSaid :=
  OpenClaim.holds_of_cond 4 Try.f4 rfl rfl rfl rfl rfl rfl rfl ⟨rfl, rfl, rfl, rfl, rfl⟩ rfl rfl rfl rfl rfl (by kernel_rfl) Try.func4 (by kernel_rfl)
    (of_decide_eq_true (by kernel_rfl)) (by unfold Func.isWrapper; rw [if_neg (of_decide_eq_false (by kernel_rfl))]; exact ⟨rfl, rfl⟩)
    (fun os started H enc _ G => by rw [OpenClaim.pre_eq_preRow]; exact lifted os started H enc G)

theorem proved : Rows.FnLinesGlueUptoSaid := said
end Go.Proofs.Ytlgoeiofachohaa.FnLinesGlue
