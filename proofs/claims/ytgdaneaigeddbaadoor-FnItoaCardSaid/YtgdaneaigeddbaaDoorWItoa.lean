/-
  The walk of laws.FnItoa: it returns true.
-/
import Derived.Test.YtgdaneaigeddbaaDoorNumTabs
namespace Go.Proofs.YtgdaneaigeddbaaDoor.fnItoa
open Go.RowKit
set_option linter.unusedVariables false
set_option maxHeartbeats 1000000 in
theorem walk (w : World) (i : Int) (hi : (Lit.int .i64 i).wf = true) (hL : laidMetH Tryd.prog Rows.fnItoaRow.laid w) :
    Calls Tryd.prog 8 #[.int .i64 i] w fun e w' => e = .returned (.bool true) ∧ Below w.heap.size w w' := by
  have hT : Pow10T w := pow10T_of hL (by kernel_rfl) (by simp [Rows.fnItoaRow])
  have hb : -9223372036854775808 ≤ i ∧ i ≤ 9223372036854775807 := by simpa [Lit.wf, IntKind.min, IntKind.max, IntKind.signed, IntKind.bits] using hi
  have C := Lib.hid (iItoa_any i w hb.1 hb.2 hT)
  have D := Lib.hid fun wx => specFormatInt_any i 10 wx (by omega) (by omega) hb.1 hb.2
  obtain ⟨L, hLL⟩ : ∃ L, L = fmtI 10 i := ⟨_, rfl⟩
  rw [← hLL] at C D
  clear hLL hT hi hL
  go_enter Tryd.func8, Tryd.ntmps8
  go_wp2_with (first
    | (go_at_call 17; refine C.out.mono ?_; rintro e w1 ⟨rfl, hw⟩)
    | (go_at_call 16; refine (D.out w1).mono ?_; rintro e w2 ⟨rfl, hw2⟩))
  go_ret
  exact ⟨by simp, hw.trans (hw2.mono hw.size)⟩
end Go.Proofs.YtgdaneaigeddbaaDoor.fnItoa
