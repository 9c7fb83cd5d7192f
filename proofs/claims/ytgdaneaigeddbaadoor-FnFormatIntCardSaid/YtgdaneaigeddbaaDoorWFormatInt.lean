/-
  The walk of laws.FnFormatInt: it returns true.
-/
import Derived.Test.YtgdaneaigeddbaaDoorFmt
import Derived.Test.YtgdaneaigeddbaaDoorNumRange
namespace Go.Proofs.YtgdaneaigeddbaaDoor.fnFormatInt
open Go.RowKit
set_option linter.unusedVariables false
set_option maxHeartbeats 1000000 in
theorem walk (w : World) (x : Int) (hx : (Lit.int .i64 x).wf = true) (base : Int) (hbase : (Lit.int .i64 base).wf = true) (hL : laidMetH Tryd.prog Rows.fnFormatIntRow.laid w) :
    Calls Tryd.prog 7 #[.int .i64 x, .int .i64 base] w fun e w' => e = .returned (.bool true) ∧ Below w.heap.size w w' := by
  have hT : NumT w := ⟨pow10T_of hL (by kernel_rfl) (by simp [Rows.fnFormatIntRow]), bruT_of hL (by kernel_rfl) (by simp [Rows.fnFormatIntRow])⟩
  have hx : -9223372036854775808 ≤ x ∧ x ≤ 9223372036854775807 := wf_i64 hx
  have hbase := wf_i64 hbase
  clear hL
  rcases base_cases base with h | h | ⟨b, rfl, h2, h36⟩
  · have g1 : decide (base < 2) = true := by simpa using h
    go_enter Tryd.func7, Tryd.ntmps7
    go_wp2_with fail
    go_ret
    exact ⟨rfl, Below.refl _ _⟩
  · have g1 : decide (base < 2) = false := by simp; omega
    have g2 : decide (36 < base) = true := by simpa using h
    go_enter Tryd.func7, Tryd.ntmps7
    go_wp2_with fail
    go_ret
    exact ⟨rfl, Below.refl _ _⟩
  · have g1 : decide ((b : Int) < 2) = false := by simp; omega
    have g2 : decide (36 < (b : Int)) = false := by simp; omega
    have C := Lib.hid (show ∀ wx : World, Below w.heap.size w wx → _ from fun wx hb => FormatInt_any x b wx h2 h36 hx.1 hx.2 (hT.below hb))
    have D := Lib.hid (fun wx => specFormatInt_any x b wx h2 h36 hx.1 hx.2)
    obtain ⟨L, hLL⟩ : ∃ L, L = fmtI b x := ⟨_, rfl⟩
    rw [← hLL] at C D
    clear hLL hT
    go_enter Tryd.func7, Tryd.ntmps7
    go_wp2_with (first
      | (go_at_call 15; refine (C.out w (Below.refl _ _)).mono ?_; rintro e w1 ⟨rfl, hw⟩)
      | (go_at_call 16; refine (D.out w1).mono ?_; rintro e w2 ⟨rfl, hw2⟩))
    go_ret
    exact ⟨by simp, hw.trans (hw2.mono hw.size)⟩
end Go.Proofs.YtgdaneaigeddbaaDoor.fnFormatInt
