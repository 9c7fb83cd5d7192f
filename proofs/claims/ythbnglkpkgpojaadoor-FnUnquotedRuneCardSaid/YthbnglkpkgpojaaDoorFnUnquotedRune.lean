/-
  laws.FnUnquotedRune returns true for every input, the listed package-level variables being as the program's text lays them (the card ties them), and each argument reads afterwards as it read before: the given statement Rows.FnUnquotedRuneCardSaid.
  Conditions: none beyond the statement's own. The frame is printed by wip/frame.py after the guide's worked text; the walk is in YthbnglkpkgpojaaDoorWUnquotedRune.
-/
import Derived.Test.YthbnglkpkgpojaaDoorRows
import Derived.Test.YthbnglkpkgpojaaDoorCards
import Derived.Test.YthbnglkpkgpojaaDoorTie
import Derived.Test.YthbnglkpkgpojaaDoorWUnquotedRune
import Derived.WalkKit
import Derived.ProofKit
import Derived.OpenShut
import Derived.ShutString
import Derived.ChangeOld
import Derived.Below
import Derived.Carry
import Derived.SizedLaws
import Derived.LaidMore
import Derived.Lay
import Derived.SevenTiedAt
import Derived.Stop.Joined
import Derived.Deep.DeepHandedRow
namespace Go.Proofs.YthbnglkpkgpojaaDoor.fnUnquotedRune
open Go.ChangeShapes Go.WideShapes Go.ChangeAt Go.RowKit
open Go.ChangeMaps (open_string shut_string)
set_option linter.unusedVariables false
set_option maxRecDepth 100000

theorem own : ownKnob Tryd.prog.godebug = none := by kernel_rfl
theorem laidOut : laidOutB Tryd.prog = true := by kernel_rfl
theorem laid_met (os : Os) : laidMetH Tryd.prog Rows.fnUnquotedRuneRow.laid ((World.laidAll Tryd.prog os Rows.fnUnquotedRuneRow.laid).forCall (fun _ _ => 0) ⟨#[], #[.int .i32 0], []⟩).memory := by
  rw [MakeChecks.laidMetH_plain _ _ _ (by kernel_rfl)]; exact laidMet_laidAll _ (by kernel_rfl) (by kernel_rfl)
theorem reads (os : Os) {H : Type} (enc : TypeId × Value → H) : ∃ places, DataW.whole enc Tryd.prog ((World.laidAll Tryd.prog os Rows.fnUnquotedRuneRow.laid).forCall (fun _ _ => 0) ⟨#[], #[.int .i32 0], []⟩).memory Tryd.f6.params.toList (OpenSpec.ofChange Rows.fnUnquotedRuneSpec).vars false (#[.int .i32 0] : Array Value).toList 8 = some ([.lit (.int .i32 0)], [], places) :=
  ⟨[], by kernel_rfl⟩
theorem shaped (os : Os) : ((World.laidAll Tryd.prog os Rows.fnUnquotedRuneRow.laid).forCall (fun _ _ => 0) ⟨#[], #[.int .i32 0], []⟩).Shaped Tryd.prog := World.shaped_of_ZipB (by kernel_rfl) (by kernel_rfl)
theorem okWide0 (os : Os) : Input.okWideB Tryd.prog ((World.laidAll Tryd.prog os Rows.fnUnquotedRuneRow.laid).forCall (fun _ _ => 0) ⟨#[], #[.int .i32 0], []⟩) 6 ⟨#[], #[.int .i32 0], []⟩ = true := by kernel_rfl
theorem witness (os : Os) {H : Type} (enc : TypeId × Value → H) :
    ∃ (w : World) (tape : Tape) (i : Input), w.os = os ∧ (w.forCall tape i).Shaped Tryd.prog ∧ i.vars = [] ∧ Input.okWide Tryd.prog (w.forCall tape i) .any w.heap.size 6 i ∧
      (OpenSpec.ofChange Rows.fnUnquotedRuneSpec).preRow enc Tryd.prog Tryd.f6 Rows.fnUnquotedRuneRow.domain false Rows.fnUnquotedRuneRow.laid (w.forCall tape i).memory i.args ∧ ({} : Assume).holds Tryd.prog (lone (Frame.enter Tryd.prog 6 i.args .normal) [] (w.forCall tape i)) := by
  obtain ⟨places, hx⟩ := reads os enc
  exact ⟨(World.laidAll Tryd.prog os Rows.fnUnquotedRuneRow.laid), fun _ _ => 0, ⟨#[], #[.int .i32 0], []⟩, World.laidAll_os _ _ _, shaped os, (Input.okWide_of_okWideB (base := 0) (okWide0 os)).1, (Input.okWide_of_okWideB (okWide0 os)).2, OpenSpec.preRow_of_cond 8 hx (by kernel_rfl) (fun k hk => by cases hk) (by kernel_rfl) (laid_met os), by
    simp only [Assume.holds]
    exact ⟨by simp, by simp, fun _ => Modest.zero, by simp, by simp⟩⟩
theorem lifted (os : Os) (started : os.Started) (H : Type) (enc : TypeId × Value → H) (F : Stop.Interp) :
    ReturnsInHanded {} Tryd.checked os 6 .any ((OpenSpec.ofChange Rows.fnUnquotedRuneSpec).preRow enc Tryd.prog Tryd.f6 Rows.fnUnquotedRuneRow.domain false Rows.fnUnquotedRuneRow.laid) (((OpenSpec.ofChange Rows.fnUnquotedRuneSpec).at F).post enc Tryd.prog Tryd.f6 false true false false) := by
  refine returnsInHanded_of_row (C := Tryd.checked) (s := (OpenSpec.ofChange Rows.fnUnquotedRuneSpec)) own started (by kernel_rfl) Tryd.func6 (witness os enc) ?_
  intro W base args ds gs before hval0 hW _ hcond hsz hL _ _
  have hval : ∀ (j : Nat) t v, Tryd.f6.params[j]? = some t → args[j]? = some v → Value.okWide Tryd.prog W .any base t v := hval0
  have hW' := hW
  obtain ⟨p, q, hA0, hV, rfl, hfz, hnd⟩ := hW
  have hA : DataW.TrodAll enc Tryd.prog W 0 (fun _ => true) true Tryd.f6.params.toList args.toList ds p := hA0
  have hsz' : (DataW.weightsEach Tryd.prog (Tryd.f6.params.toList ++ []) (ds ++ gs)).all (· ≤ reachBytes) = true := hsz
  rw [Tryd.params6] at hA hval hsz'
  obtain ⟨v0, vs0, d0, ds0, p0, q0, hargs, rfl, rfl, h0, r0⟩ := trodAll_cons hA
  obtain ⟨rfl, rfl, rfl⟩ := trodAll_nil r0
  obtain rfl : args = #[v0] := by cases args; simp_all
  obtain ⟨rfl, rfl⟩ := trodVars_none hV
  obtain ⟨a0, rfl, rfl, rfl, w0⟩ := open_int Tryd.underlying21 (hval 0 21 v0 rfl rfl) h0
  clear hA0 hval0
  refine (walk W a0 w0 hL).mono fun e W' ⟨he, bel⟩ => ?_
  subst he
  exact ⟨_, rfl, _, _, _, [], _, [], hW', trodAll_mk1 (shut_bool Tryd.underlying4 _), (trodAll_cons_mk (shut_int Tryd.underlying21 w0) trodAll_mk0), rfl, bel.frame _, fun h => by cases h⟩

theorem over : Rows.fnUnquotedRuneRow.holds Tryd.pinned (OpenSpec.ofChange Rows.fnUnquotedRuneSpec) :=
  OpenClaim.holds_of_cond 6 Tryd.f6 rfl rfl rfl rfl rfl rfl rfl ⟨rfl, rfl, rfl, rfl, rfl⟩ rfl rfl rfl rfl rfl (by kernel_rfl) Tryd.func6 (by kernel_rfl)
    (of_decide_eq_true (by kernel_rfl)) (by unfold Func.isWrapper; first | (rw [if_pos (by decide +kernel)]; kernel_rfl) | (rw [if_neg (by decide +kernel)]; exact ⟨rfl, rfl⟩))
    (fun os started H enc _ F => by rw [OpenClaim.pre_eq_preRow]; exact lifted os started H enc F)
theorem plain (f : FuncId) (fn : Func) (hf : Tryd.pinned.checked.prog.funcNamed "loop.example/lib-g03226/laws.FnUnquotedRune" = some f) (hfn : Tryd.pinned.checked.prog.funcs[f]? = some fn) :
    true = Tryd.pinned.checked.prog.looks [] ∧ ∀ (j : Nat) t, fn.params[j]? = some t → Tryd.pinned.checked.prog.wantsStandIn t = false := by
  obtain rfl : f = 6 := Option.some.inj ((show Tryd.prog.funcNamed "loop.example/lib-g03226/laws.FnUnquotedRune" = some 6 by kernel_rfl).symm.trans hf) |>.symm
  obtain rfl : fn = Tryd.f6 := (Option.some.inj (Tryd.func6.symm.trans hfn)).symm
  refine ⟨by kernel_rfl, fun j t ht => ?_⟩
  rw [Tryd.params6] at ht
  have hm : t ∈ [21] := by simpa using Array.mem_of_getElem? ht
  have hall : ([21].all fun u => !Tryd.prog.wantsStandIn u) = true := by kernel_rfl
  exact (show Tryd.prog.wantsStandIn t = false by simpa using List.all_eq_true.1 hall t hm)
theorem proved : Rows.FnUnquotedRuneCardSaid :=
  Claim7.holds_tied_plain_at .later [] _ _ _ _ over (fun _ h => by cases h) (by kernel_rfl) (fun _ h => by cases h) fnUnquotedRune_row_tie rfl ⟨rfl, rfl⟩ (by kernel_rfl) rfl plain (by kernel_rfl)
end Go.Proofs.YthbnglkpkgpojaaDoor.fnUnquotedRune
