/-
  laws.FnTwice returns true where the arguments hold together at most 1048576 values and letters ('uptoBulk'), the listed package-level variables being as the program's text lays them (the card ties them), and each argument reads afterwards as it read before: the given statement Rows.FnTwiceUptoCardSaid.
  Conditions: the statement's own bound on the bulk of what is read. The frame is printed by wip/frame.py after the guide's worked text; the walk is in YthbnglkpkgpojaaDoorWTwice.
-/
import Derived.Test.YthbnglkpkgpojaaDoorRows
import Derived.Test.YthbnglkpkgpojaaDoorCards
import Derived.Test.YthbnglkpkgpojaaDoorTie
import Derived.Test.YthbnglkpkgpojaaDoorWTwice
import Derived.WalkKit
import Derived.ProofKit
import Derived.OpenShut
import Derived.ShutString
import Derived.ChangeOld
import Derived.Below
import Derived.Carry
import Derived.SizedLaws
import Derived.LaidMore
import Derived.Lay
import Derived.SevenTiedAt
import Derived.Stop.Joined
import Derived.Deep.DeepHandedRow
namespace Go.Proofs.YthbnglkpkgpojaaDoor.fnTwice
open Go.ChangeShapes Go.WideShapes Go.ChangeAt Go.RowKit
open Go.ChangeMaps (open_string shut_string)
set_option linter.unusedVariables false
set_option maxRecDepth 100000

theorem own : ownKnob Tryd.prog.godebug = none := by kernel_rfl
theorem laidOut : laidOutB Tryd.prog = true := by kernel_rfl
theorem laid_met (os : Os) : laidMetH Tryd.prog Rows.fnTwiceUptoRow.laid ((World.laidAll Tryd.prog os Rows.fnTwiceUptoRow.laid).forCall (fun _ _ => 0) ⟨#[], #[.string .empty], []⟩).memory := by
  rw [MakeChecks.laidMetH_plain _ _ _ (by kernel_rfl)]; exact laidMet_laidAll _ (by kernel_rfl) (by kernel_rfl)
theorem reads (os : Os) {H : Type} (enc : TypeId × Value → H) : ∃ places, DataW.whole enc Tryd.prog ((World.laidAll Tryd.prog os Rows.fnTwiceUptoRow.laid).forCall (fun _ _ => 0) ⟨#[], #[.string .empty], []⟩).memory Tryd.f7.params.toList (Rows.OpenSpec.upto Rows.fnTwiceSpec).vars false (#[.string .empty] : Array Value).toList 8 = some ([.lit (.string [])], [], places) :=
  ⟨[], by kernel_rfl⟩
theorem shaped (os : Os) : ((World.laidAll Tryd.prog os Rows.fnTwiceUptoRow.laid).forCall (fun _ _ => 0) ⟨#[], #[.string .empty], []⟩).Shaped Tryd.prog := World.shaped_of_ZipB (by kernel_rfl) (by kernel_rfl)
theorem okWide0 (os : Os) : Input.okWideB Tryd.prog ((World.laidAll Tryd.prog os Rows.fnTwiceUptoRow.laid).forCall (fun _ _ => 0) ⟨#[], #[.string .empty], []⟩) 7 ⟨#[], #[.string .empty], []⟩ = true := by kernel_rfl
theorem witness (os : Os) {H : Type} (enc : TypeId × Value → H) :
    ∃ (w : World) (tape : Tape) (i : Input), w.os = os ∧ (w.forCall tape i).Shaped Tryd.prog ∧ i.vars = [] ∧ Input.okWide Tryd.prog (w.forCall tape i) .any w.heap.size 7 i ∧
      (Rows.OpenSpec.upto Rows.fnTwiceSpec).preRow enc Tryd.prog Tryd.f7 Rows.fnTwiceUptoRow.domain false Rows.fnTwiceUptoRow.laid (w.forCall tape i).memory i.args ∧ ({} : Assume).holds Tryd.prog (lone (Frame.enter Tryd.prog 7 i.args .normal) [] (w.forCall tape i)) := by
  obtain ⟨places, hx⟩ := reads os enc
  exact ⟨(World.laidAll Tryd.prog os Rows.fnTwiceUptoRow.laid), fun _ _ => 0, ⟨#[], #[.string .empty], []⟩, World.laidAll_os _ _ _, shaped os, (Input.okWide_of_okWideB (base := 0) (okWide0 os)).1, (Input.okWide_of_okWideB (okWide0 os)).2, OpenSpec.preRow_of_cond 8 hx (by kernel_rfl) (fun k hk => by cases hk; kernel_rfl) (by kernel_rfl) (laid_met os), by
    simp only [Assume.holds]
    exact ⟨by simp, by simp, fun _ => Modest.zero, by simp, by simp⟩⟩
theorem lifted (os : Os) (started : os.Started) (H : Type) (enc : TypeId × Value → H) (F : Stop.Interp) :
    ReturnsInHanded {} Tryd.checked os 7 .any ((Rows.OpenSpec.upto Rows.fnTwiceSpec).preRow enc Tryd.prog Tryd.f7 Rows.fnTwiceUptoRow.domain false Rows.fnTwiceUptoRow.laid) (((Rows.OpenSpec.upto Rows.fnTwiceSpec).at F).post enc Tryd.prog Tryd.f7 false true false false) := by
  refine returnsInHanded_of_row (C := Tryd.checked) (s := (Rows.OpenSpec.upto Rows.fnTwiceSpec)) own started (by kernel_rfl) Tryd.func7 (witness os enc) ?_
  intro W base args ds gs before hval0 hW _ hcond hsz hL _ _
  have hval : ∀ (j : Nat) t v, Tryd.f7.params[j]? = some t → args[j]? = some v → Value.okWide Tryd.prog W .any base t v := hval0
  have hW' := hW
  obtain ⟨p, q, hA0, hV, rfl, hfz, hnd⟩ := hW
  have hA : DataW.TrodAll enc Tryd.prog W 0 (fun _ => true) true Tryd.f7.params.toList args.toList ds p := hA0
  have hsz' : (DataW.weightsEach Tryd.prog (Tryd.f7.params.toList ++ []) (ds ++ gs)).all (· ≤ reachBytes) = true := hsz
  rw [Tryd.params7] at hA hval hsz'
  obtain ⟨v0, vs0, d0, ds0, p0, q0, hargs, rfl, rfl, h0, r0⟩ := trodAll_cons hA
  obtain ⟨rfl, rfl, rfl⟩ := trodAll_nil r0
  obtain rfl : args = #[v0] := by cases args; simp_all
  obtain ⟨rfl, rfl⟩ := trodVars_none hV
  obtain ⟨a0, rfl, rfl, rfl, hs0⟩ := open_string Tryd.underlying9 (hval 0 9 v0 rfl rfl) h0
  clear hA0 hval0
  have hk : Rows.uptoSmall H _ = true := hcond _ rfl
  have hk' : Rows.uptoBulkAll _ ≤ 1048576 := of_decide_eq_true hk
  clear hk
  simp only [List.append_nil, Rows.uptoBulkAll, Rows.uptoBulk] at hk'
  have hb0 : a0.size ≤ 1048576 := by
    have e : a0.data.toList.length = a0.size := Array.length_toList
    omega
  refine (walk W a0 hb0 hL).mono fun e W' ⟨he, bel⟩ => ?_
  subst he
  exact ⟨_, rfl, _, _, _, [], _, [], hW', trodAll_mk1 (shut_bool Tryd.underlying4 _), (trodAll_cons_mk (shut_string Tryd.underlying9 hs0) trodAll_mk0), rfl, bel.frame _, fun h => by cases h⟩

theorem over : Rows.fnTwiceUptoRow.holds Tryd.pinned (Rows.OpenSpec.upto Rows.fnTwiceSpec) :=
  OpenClaim.holds_of_cond 7 Tryd.f7 rfl rfl rfl rfl rfl rfl rfl ⟨rfl, rfl, rfl, rfl, rfl⟩ rfl rfl rfl rfl rfl (by kernel_rfl) Tryd.func7 (by kernel_rfl)
    (of_decide_eq_true (by kernel_rfl)) (by unfold Func.isWrapper; first | (rw [if_pos (by decide +kernel)]; kernel_rfl) | (rw [if_neg (by decide +kernel)]; exact ⟨rfl, rfl⟩))
    (fun os started H enc _ F => by rw [OpenClaim.pre_eq_preRow]; exact lifted os started H enc F)
theorem plain (f : FuncId) (fn : Func) (hf : Tryd.pinned.checked.prog.funcNamed "loop.example/lib-g03226/laws.FnTwice" = some f) (hfn : Tryd.pinned.checked.prog.funcs[f]? = some fn) :
    true = Tryd.pinned.checked.prog.looks [] ∧ ∀ (j : Nat) t, fn.params[j]? = some t → Tryd.pinned.checked.prog.wantsStandIn t = false := by
  obtain rfl : f = 7 := Option.some.inj ((show Tryd.prog.funcNamed "loop.example/lib-g03226/laws.FnTwice" = some 7 by kernel_rfl).symm.trans hf) |>.symm
  obtain rfl : fn = Tryd.f7 := (Option.some.inj (Tryd.func7.symm.trans hfn)).symm
  refine ⟨by kernel_rfl, fun j t ht => ?_⟩
  rw [Tryd.params7] at ht
  have hm : t ∈ [9] := by simpa using Array.mem_of_getElem? ht
  have hall : ([9].all fun u => !Tryd.prog.wantsStandIn u) = true := by kernel_rfl
  exact (show Tryd.prog.wantsStandIn t = false by simpa using List.all_eq_true.1 hall t hm)
theorem proved : Rows.FnTwiceUptoCardSaid :=
  Claim7.holds_tied_plain_at .later [] _ _ _ _ over (fun _ h => by cases h) (by kernel_rfl) (fun _ h => by cases h) fnTwiceUpto_row_tie rfl ⟨rfl, rfl⟩ (by kernel_rfl) rfl plain (by kernel_rfl)
end Go.Proofs.YthbnglkpkgpojaaDoor.fnTwice
