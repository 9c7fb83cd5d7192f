/-
  laws.FnFormatBool returns true for every input, and each argument reads afterwards as it read before: the given statement Rows.FnFormatBoolSaid.
  Conditions: none beyond the statement's own. The frame is printed by wip/frame.py after the guide's worked text; the walk is in YtmkgcoddpmcfpaaWFormatBool.
-/
import Derived.Test.YtmkgcoddpmcfpaaRows
import Derived.Test.YtmkgcoddpmcfpaaWFormatBool
import Derived.WalkKit
import Derived.ProofKit
import Derived.OpenShut
import Derived.ShutString
import Derived.ChangeOld
import Derived.Below
import Derived.Carry
import Derived.SizedLaws
import Derived.LaidMore
import Derived.Lay
import Derived.SevenTiedAt
import Derived.Stop.Joined
import Derived.Deep.DeepHandedRow
namespace Go.Proofs.Ytmkgcoddpmcfpaa.fnFormatBool
open Go.ChangeShapes Go.WideShapes Go.ChangeAt Go.RowKit
open Go.ChangeMaps (open_string shut_string)
set_option linter.unusedVariables false
set_option maxRecDepth 100000

theorem own : ownKnob Try.prog.godebug = none := by kernel_rfl
theorem laidOut : laidOutB Try.prog = true := by kernel_rfl
theorem laid_met (os : Os) : laidMetH Try.prog Rows.fnFormatBoolRow.laid ((World.laidAll Try.prog os Rows.fnFormatBoolRow.laid).forCall (fun _ _ => 0) ⟨#[], #[.bool false], []⟩).memory := by
  rw [MakeChecks.laidMetH_plain _ _ _ (by kernel_rfl)]; exact laidMet_laidAll _ (by kernel_rfl) (by kernel_rfl)
theorem reads (os : Os) {H : Type} (enc : TypeId × Value → H) : ∃ places, DataW.whole enc Try.prog ((World.laidAll Try.prog os Rows.fnFormatBoolRow.laid).forCall (fun _ _ => 0) ⟨#[], #[.bool false], []⟩).memory Try.f3.params.toList (OpenSpec.ofChange Rows.fnFormatBoolSpec).vars false (#[.bool false] : Array Value).toList 8 = some ([.lit (.bool false)], [], places) :=
  ⟨[], by kernel_rfl⟩
theorem shaped (os : Os) : ((World.laidAll Try.prog os Rows.fnFormatBoolRow.laid).forCall (fun _ _ => 0) ⟨#[], #[.bool false], []⟩).Shaped Try.prog := World.shaped_of_ZipB (by kernel_rfl) (by kernel_rfl)
theorem okWide0 (os : Os) : Input.okWideB Try.prog ((World.laidAll Try.prog os Rows.fnFormatBoolRow.laid).forCall (fun _ _ => 0) ⟨#[], #[.bool false], []⟩) 3 ⟨#[], #[.bool false], []⟩ = true := by kernel_rfl
theorem witness (os : Os) {H : Type} (enc : TypeId × Value → H) :
    ∃ (w : World) (tape : Tape) (i : Input), w.os = os ∧ (w.forCall tape i).Shaped Try.prog ∧ i.vars = [] ∧ Input.okWide Try.prog (w.forCall tape i) .any w.heap.size 3 i ∧
      (OpenSpec.ofChange Rows.fnFormatBoolSpec).preRow enc Try.prog Try.f3 Rows.fnFormatBoolRow.domain false Rows.fnFormatBoolRow.laid (w.forCall tape i).memory i.args ∧ ({} : Assume).holds Try.prog (lone (Frame.enter Try.prog 3 i.args .normal) [] (w.forCall tape i)) := by
  obtain ⟨places, hx⟩ := reads os enc
  exact ⟨(World.laidAll Try.prog os Rows.fnFormatBoolRow.laid), fun _ _ => 0, ⟨#[], #[.bool false], []⟩, World.laidAll_os _ _ _, shaped os, (Input.okWide_of_okWideB (base := 0) (okWide0 os)).1, (Input.okWide_of_okWideB (okWide0 os)).2, OpenSpec.preRow_of_cond 8 hx (by kernel_rfl) (fun k hk => by cases hk) (by kernel_rfl) (laid_met os), by
    simp only [Assume.holds]
    exact ⟨by simp, by simp, fun _ => Modest.zero, by simp, by simp⟩⟩
theorem lifted (os : Os) (started : os.Started) (H : Type) (enc : TypeId × Value → H) (F : Stop.Interp) :
    ReturnsInHanded {} Try.checked os 3 .any ((OpenSpec.ofChange Rows.fnFormatBoolSpec).preRow enc Try.prog Try.f3 Rows.fnFormatBoolRow.domain false Rows.fnFormatBoolRow.laid) (((OpenSpec.ofChange Rows.fnFormatBoolSpec).at F).post enc Try.prog Try.f3 false true false false) := by
  refine returnsInHanded_of_row (C := Try.checked) (s := (OpenSpec.ofChange Rows.fnFormatBoolSpec)) own started (by kernel_rfl) Try.func3 (witness os enc) ?_
  intro W base args ds gs before hval0 hW _ hcond hsz hL _ _
  have hval : ∀ (j : Nat) t v, Try.f3.params[j]? = some t → args[j]? = some v → Value.okWide Try.prog W .any base t v := hval0
  have hW' := hW
  obtain ⟨p, q, hA0, hV, rfl, hfz, hnd⟩ := hW
  have hA : DataW.TrodAll enc Try.prog W 0 (fun _ => true) true Try.f3.params.toList args.toList ds p := hA0
  have hsz' : (DataW.weightsEach Try.prog (Try.f3.params.toList ++ []) (ds ++ gs)).all (· ≤ reachBytes) = true := hsz
  rw [Try.params3] at hA hval hsz'
  obtain ⟨v0, vs0, d0, ds0, p0, q0, hargs, rfl, rfl, h0, r0⟩ := trodAll_cons hA
  obtain ⟨rfl, rfl, rfl⟩ := trodAll_nil r0
  obtain rfl : args = #[v0] := by cases args; simp_all
  obtain ⟨rfl, rfl⟩ := trodVars_none hV
  obtain ⟨a0, rfl, rfl, rfl⟩ := open_bool Try.underlying4 (hval 0 4 v0 rfl rfl) h0
  clear hA0 hval0
  refine (walk W a0).mono fun e W' ⟨he, bel⟩ => ?_
  subst he
  exact ⟨_, rfl, _, _, _, [], _, [], hW', trodAll_mk1 (shut_bool Try.underlying4 _), (trodAll_cons_mk (shut_bool Try.underlying4 _) trodAll_mk0), rfl, bel.frame _, fun h => by cases h⟩

theorem over : Rows.fnFormatBoolRow.holds Try.pinned (OpenSpec.ofChange Rows.fnFormatBoolSpec) :=
  OpenClaim.holds_of_cond 3 Try.f3 rfl rfl rfl rfl rfl rfl rfl ⟨rfl, rfl, rfl, rfl, rfl⟩ rfl rfl rfl rfl rfl (by kernel_rfl) Try.func3 (by kernel_rfl)
    (of_decide_eq_true (by kernel_rfl)) (by unfold Func.isWrapper; first | (rw [if_pos (by decide +kernel)]; kernel_rfl) | (rw [if_neg (by decide +kernel)]; exact ⟨rfl, rfl⟩))
    (fun os started H enc _ F => by rw [OpenClaim.pre_eq_preRow]; exact lifted os started H enc F)
theorem proved : Rows.FnFormatBoolSaid := over
end Go.Proofs.Ytmkgcoddpmcfpaa.fnFormatBool
