/-
  laws.FnAppendMore returns true where the arguments hold together at most 1048576 values and letters ('uptoBulk'), the listed package-level variables being as the program's text lays them (the card ties them), and each argument reads afterwards as it read before: the given statement Rows.FnAppendMoreUptoCardSaid.
  Conditions: the statement's own bound on the bulk of what is read. The frame is printed by wip/frame.py after the guide's worked text; the walk is in YthbnglkpkgpojaaDoorWAppendMore.
-/
import Derived.Test.YthbnglkpkgpojaaDoorRows
import Derived.Test.YthbnglkpkgpojaaDoorCards
import Derived.Test.YthbnglkpkgpojaaDoorTie
import Derived.Test.YthbnglkpkgpojaaDoorWAppendMore
import Derived.WalkKit
import Derived.ProofKit
import Derived.OpenShut
import Derived.ShutString
import Derived.ChangeOld
import Derived.Below
import Derived.Carry
import Derived.SizedLaws
import Derived.LaidMore
import Derived.Lay
import Derived.SevenTiedAt
import Derived.Stop.Joined
import Derived.Deep.DeepHandedRow
namespace Go.Proofs.YthbnglkpkgpojaaDoor.fnAppendMore
open Go.ChangeShapes Go.WideShapes Go.ChangeAt Go.RowKit
open Go.ChangeMaps (open_string shut_string)
set_option linter.unusedVariables false
set_option maxRecDepth 100000

theorem own : ownKnob Tryd.prog.godebug = none := by kernel_rfl
theorem laidOut : laidOutB Tryd.prog = true := by kernel_rfl
theorem laid_met (os : Os) : laidMetH Tryd.prog Rows.fnAppendMoreUptoRow.laid ((World.laidAll Tryd.prog os Rows.fnAppendMoreUptoRow.laid).forCall (fun _ _ => 0) ⟨#[], #[.slice none 0 0, .int .i64 0, .int .u64 0, .bool false, .int .i64 0], []⟩).memory := by
  rw [MakeChecks.laidMetH_plain _ _ _ (by kernel_rfl)]; exact laidMet_laidAll _ (by kernel_rfl) (by kernel_rfl)
theorem reads (os : Os) {H : Type} (enc : TypeId × Value → H) : ∃ places, DataW.whole enc Tryd.prog ((World.laidAll Tryd.prog os Rows.fnAppendMoreUptoRow.laid).forCall (fun _ _ => 0) ⟨#[], #[.slice none 0 0, .int .i64 0, .int .u64 0, .bool false, .int .i64 0], []⟩).memory Tryd.f9.params.toList (Rows.OpenSpec.upto Rows.fnAppendMoreSpec).vars false (#[.slice none 0 0, .int .i64 0, .int .u64 0, .bool false, .int .i64 0] : Array Value).toList 8 = some ([.nil, .lit (.int .i64 0), .lit (.int .u64 0), .lit (.bool false), .lit (.int .i64 0)], [], places) :=
  ⟨[], by kernel_rfl⟩
theorem shaped (os : Os) : ((World.laidAll Tryd.prog os Rows.fnAppendMoreUptoRow.laid).forCall (fun _ _ => 0) ⟨#[], #[.slice none 0 0, .int .i64 0, .int .u64 0, .bool false, .int .i64 0], []⟩).Shaped Tryd.prog := World.shaped_of_ZipB (by kernel_rfl) (by kernel_rfl)
theorem okWide0 (os : Os) : Input.okWideB Tryd.prog ((World.laidAll Tryd.prog os Rows.fnAppendMoreUptoRow.laid).forCall (fun _ _ => 0) ⟨#[], #[.slice none 0 0, .int .i64 0, .int .u64 0, .bool false, .int .i64 0], []⟩) 9 ⟨#[], #[.slice none 0 0, .int .i64 0, .int .u64 0, .bool false, .int .i64 0], []⟩ = true := by kernel_rfl
theorem witness (os : Os) {H : Type} (enc : TypeId × Value → H) :
    ∃ (w : World) (tape : Tape) (i : Input), w.os = os ∧ (w.forCall tape i).Shaped Tryd.prog ∧ i.vars = [] ∧ Input.okWide Tryd.prog (w.forCall tape i) .any w.heap.size 9 i ∧
      (Rows.OpenSpec.upto Rows.fnAppendMoreSpec).preRow enc Tryd.prog Tryd.f9 Rows.fnAppendMoreUptoRow.domain false Rows.fnAppendMoreUptoRow.laid (w.forCall tape i).memory i.args ∧ ({} : Assume).holds Tryd.prog (lone (Frame.enter Tryd.prog 9 i.args .normal) [] (w.forCall tape i)) := by
  obtain ⟨places, hx⟩ := reads os enc
  exact ⟨(World.laidAll Tryd.prog os Rows.fnAppendMoreUptoRow.laid), fun _ _ => 0, ⟨#[], #[.slice none 0 0, .int .i64 0, .int .u64 0, .bool false, .int .i64 0], []⟩, World.laidAll_os _ _ _, shaped os, (Input.okWide_of_okWideB (base := 0) (okWide0 os)).1, (Input.okWide_of_okWideB (okWide0 os)).2, OpenSpec.preRow_of_cond 8 hx (by kernel_rfl) (fun k hk => by cases hk; kernel_rfl) (by kernel_rfl) (laid_met os), by
    simp only [Assume.holds]
    exact ⟨by simp, by simp, fun _ => Modest.zero, by simp, by simp⟩⟩
theorem open_bytes {H : Type} {enc : TypeId × Value → H} {W : World} {a : Option Addr} {len cap : Nat} {d : DataW H} {p : List MemPlace} (h : DataW.Trod enc Tryd.prog W 0 (fun _ => true) true 39 (Value.slice a len cap) d p) :
    ∃ l : List UInt8, len = l.length ∧ Reads W W.heap.size 1 a l.length (bcells l) ∧ ((d = .nil ∧ l = []) ∨ ∃ el sp : List (DataW H), d = .slice el sp ∧ el.length = l.length) := by
  obtain ⟨fuel, hf⟩ := h
  rcases open_ints Tryd.underlying39 Tryd.underlying5 (by kernel_rfl) hf with ⟨hcs, hx⟩ | ⟨x, ln, c, zs, hcs, _, h1, h2, h3, hx, h4, h5⟩
  · simp [Value.cells] at hcs
    obtain ⟨rfl, rfl, rfl⟩ := hcs
    exact ⟨[], rfl, Reads.none_, .inl ⟨(Prod.mk.inj hx).1, rfl⟩⟩
  · simp [Value.cells] at hcs
    obtain ⟨rfl, rfl, rfl⟩ := hcs
    simp only [if_true] at h3
    refine ⟨(zs.take len).map fun z => UInt8.ofNat z.toNat, by simp; omega, ⟨by simp [bcells], fun hn => ⟨x, rfl, ?_, fun j u hu => ?_⟩⟩, .inr ⟨_, _, (Prod.mk.inj hx).1, by simp [lits]⟩⟩
    · have := h4 0 (by simp at hn; omega)
      have := World.block_lt_of_cell? _ _ this
      rwa [block_of_add] at this
    · have hj : j < len := by
        rcases Nat.lt_or_ge j len with h | h
        · exact h
        · rw [List.getElem?_eq_none (by simp [bcells]; omega)] at hu; cases hu
      have hjz : j < zs.length := by omega
      have h6 := h5 zs[j] (List.getElem_mem hjz)
      have h6' : 0 ≤ zs[j] ∧ zs[j] ≤ 255 := by simpa [Lit.wf, IntKind.min, IntKind.max, IntKind.signed, IntKind.bits] using h6
      rw [h4 j hjz, ← hu]
      have : ((zs[j].toNat % 256 : Nat) : Int) = zs[j] := by omega
      simp [bcells, hj, List.getElem?_eq_getElem hjz, List.getD, this]
theorem bulk_len {H : Type} : ∀ l : List (DataW H), l.length ≤ Rows.uptoBulkAll l
  | [] => by simp
  | x :: r => by
    have h1 : 1 ≤ Rows.uptoBulk x := by
      cases x with
      | lit v => cases v <;> simp [Rows.uptoBulk]
      | nil => simp [Rows.uptoBulk]
      | ptr d => simp [Rows.uptoBulk]
      | slice e s => simp [Rows.uptoBulk]
      | agg ps => simp [Rows.uptoBulk]
      | iface t d => simp [Rows.uptoBulk]
      | map es => simp [Rows.uptoBulk]
      | held h => simp [Rows.uptoBulk]
    have := bulk_len r
    simp only [Rows.uptoBulkAll, List.length_cons]; omega
theorem lifted (os : Os) (started : os.Started) (H : Type) (enc : TypeId × Value → H) (F : Stop.Interp) :
    ReturnsInHanded {} Tryd.checked os 9 .any ((Rows.OpenSpec.upto Rows.fnAppendMoreSpec).preRow enc Tryd.prog Tryd.f9 Rows.fnAppendMoreUptoRow.domain false Rows.fnAppendMoreUptoRow.laid) (((Rows.OpenSpec.upto Rows.fnAppendMoreSpec).at F).post enc Tryd.prog Tryd.f9 false true false false) := by
  refine returnsInHanded_of_row (C := Tryd.checked) (s := (Rows.OpenSpec.upto Rows.fnAppendMoreSpec)) own started (by kernel_rfl) Tryd.func9 (witness os enc) ?_
  intro W base args ds gs before hval0 hW _ hcond hsz hL _ _
  have hval : ∀ (j : Nat) t v, Tryd.f9.params[j]? = some t → args[j]? = some v → Value.okWide Tryd.prog W .any base t v := hval0
  have hW' := hW
  obtain ⟨p, q, hA0, hV, rfl, hfz, hnd⟩ := hW
  have hA : DataW.TrodAll enc Tryd.prog W 0 (fun _ => true) true Tryd.f9.params.toList args.toList ds p := hA0
  have hsz' : (DataW.weightsEach Tryd.prog (Tryd.f9.params.toList ++ []) (ds ++ gs)).all (· ≤ reachBytes) = true := hsz
  rw [Tryd.params9] at hA hval hsz'
  obtain ⟨v0, vs0, d0, ds0, p0, q0, hargs, rfl, rfl, h0, r0⟩ := trodAll_cons hA
  obtain ⟨v1, vs1, d1, ds1, p1, q1, rfl, rfl, rfl, h1, r1⟩ := trodAll_cons r0
  obtain ⟨v2, vs2, d2, ds2, p2, q2, rfl, rfl, rfl, h2, r2⟩ := trodAll_cons r1
  obtain ⟨v3, vs3, d3, ds3, p3, q3, rfl, rfl, rfl, h3, r3⟩ := trodAll_cons r2
  obtain ⟨v4, vs4, d4, ds4, p4, q4, rfl, rfl, rfl, h4, r4⟩ := trodAll_cons r3
  obtain ⟨rfl, rfl, rfl⟩ := trodAll_nil r4
  obtain rfl : args = #[v0, v1, v2, v3, v4] := by cases args; simp_all
  obtain ⟨rfl, rfl⟩ := trodVars_none hV
  obtain ⟨a0, len0, c0, rfl⟩ := okWide_slice Tryd.underlying39 (hval 0 39 v0 rfl rfl)
  have lt0 : ∀ x ∈ p0, x.block < W.heap.size := by obtain ⟨m, hm⟩ := h0; exact DataW.trod_lt m _ _ _ hm
  obtain ⟨l0, rfl, hr0, hd0⟩ := open_bytes h0
  obtain ⟨a1, rfl, rfl, rfl, w1⟩ := open_int Tryd.underlying2 (hval 1 2 v1 rfl rfl) h1
  obtain ⟨a2, rfl, rfl, rfl, w2⟩ := open_int Tryd.underlying40 (hval 2 40 v2 rfl rfl) h2
  obtain ⟨a3, rfl, rfl, rfl⟩ := open_bool Tryd.underlying4 (hval 3 4 v3 rfl rfl) h3
  obtain ⟨a4, rfl, rfl, rfl, w4⟩ := open_int Tryd.underlying3 (hval 4 3 v4 rfl rfl) h4
  clear hA0 hval0
  have hk : Rows.uptoSmall H _ = true := hcond _ rfl
  have hk' : Rows.uptoBulkAll _ ≤ 1048576 := of_decide_eq_true hk
  clear hk
  simp only [List.append_nil, Rows.uptoBulkAll, Rows.uptoBulk] at hk'
  have hb0 : l0.length ≤ 1048576 := by
    rcases hd0 with ⟨_, rfl⟩ | ⟨el, sp, rfl, e⟩
    · simp
    · have := bulk_len el
      simp only [Rows.uptoBulk] at hk'
      omega
  refine (walk W a0 c0 l0 hr0 hb0 a1 w1 a2 w2 a3 a4 w4 hL).mono fun e W' ⟨he, bel⟩ => ?_
  subst he
  exact ⟨_, rfl, _, _, _, [], _, [], hW', trodAll_mk1 (shut_bool Tryd.underlying4 _), (trodAll_cons_mk (Below.trod laidOut (by kernel_rfl) (of_decide_eq_true (by kernel_rfl)) h0 bel lt0) (trodAll_cons_mk (shut_int Tryd.underlying2 w1) (trodAll_cons_mk (shut_int Tryd.underlying40 w2) (trodAll_cons_mk (shut_bool Tryd.underlying4 _) (trodAll_cons_mk (shut_int Tryd.underlying3 w4) trodAll_mk0))))), rfl, bel.frame _, fun h => by cases h⟩

theorem over : Rows.fnAppendMoreUptoRow.holds Tryd.pinned (Rows.OpenSpec.upto Rows.fnAppendMoreSpec) :=
  OpenClaim.holds_of_cond 9 Tryd.f9 rfl rfl rfl rfl rfl rfl rfl ⟨rfl, rfl, rfl, rfl, rfl⟩ rfl rfl rfl rfl rfl (by kernel_rfl) Tryd.func9 (by kernel_rfl)
    (of_decide_eq_true (by kernel_rfl)) (by unfold Func.isWrapper; first | (rw [if_pos (by decide +kernel)]; kernel_rfl) | (rw [if_neg (by decide +kernel)]; exact ⟨rfl, rfl⟩))
    (fun os started H enc _ F => by rw [OpenClaim.pre_eq_preRow]; exact lifted os started H enc F)
theorem plain (f : FuncId) (fn : Func) (hf : Tryd.pinned.checked.prog.funcNamed "loop.example/lib-g03226/laws.FnAppendMore" = some f) (hfn : Tryd.pinned.checked.prog.funcs[f]? = some fn) :
    true = Tryd.pinned.checked.prog.looks [] ∧ ∀ (j : Nat) t, fn.params[j]? = some t → Tryd.pinned.checked.prog.wantsStandIn t = false := by
  obtain rfl : f = 9 := Option.some.inj ((show Tryd.prog.funcNamed "loop.example/lib-g03226/laws.FnAppendMore" = some 9 by kernel_rfl).symm.trans hf) |>.symm
  obtain rfl : fn = Tryd.f9 := (Option.some.inj (Tryd.func9.symm.trans hfn)).symm
  refine ⟨by kernel_rfl, fun j t ht => ?_⟩
  rw [Tryd.params9] at ht
  have hm : t ∈ [39, 2, 40, 4, 3] := by simpa using Array.mem_of_getElem? ht
  have hall : ([39, 2, 40, 4, 3].all fun u => !Tryd.prog.wantsStandIn u) = true := by kernel_rfl
  exact (show Tryd.prog.wantsStandIn t = false by simpa using List.all_eq_true.1 hall t hm)
theorem proved : Rows.FnAppendMoreUptoCardSaid :=
  Claim7.holds_tied_plain_at .later [] _ _ _ _ over (fun _ h => by cases h) (by kernel_rfl) (fun _ h => by cases h) fnAppendMoreUpto_row_tie rfl ⟨rfl, rfl⟩ (by kernel_rfl) rfl plain (by kernel_rfl)
end Go.Proofs.YthbnglkpkgpojaaDoor.fnAppendMore
