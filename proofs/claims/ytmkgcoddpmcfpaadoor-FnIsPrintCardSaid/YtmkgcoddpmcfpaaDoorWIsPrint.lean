/-
  The walk of laws.FnIsPrint: it returns true.
-/
import Derived.Test.YtmkgcoddpmcfpaaDoorClass
import Derived.Test.YtmkgcoddpmcfpaaDoorPrintTabs
namespace Go.Proofs.YtmkgcoddpmcfpaaDoor.fnIsPrint
open Go.RowKit
theorem wf_i32 {a : Int} (h : (Lit.int .i32 a).wf = true) : -2147483648 ≤ a ∧ a ≤ 2147483647 := by
  simpa [Lit.wf, IntKind.min, IntKind.max, IntKind.signed, IntKind.bits] using h
theorem ximpl (r : Int) (w : World) (h0 : -2147483648 ≤ r) (h1 : r ≤ 2147483647) (hT : PrintT w) (b : Bool) (hb : printB r = b) : Calls Tryd.prog 8 #[.int .i32 r] w fun e w' => e = .returned (.bool b) ∧ ∃ q, w' = w.drewN q := by
  have C := Lib.hid (isPrint_any r w h0 h1 hT)
  rw [hb] at C
  clear hT
  go_enter Tryd.func8, Tryd.ntmps8
  go_wp2_with (go_at_call 14; refine C.out.mono ?_; rintro e w' ⟨rfl, q, rfl⟩)
  go_ret
  exact ⟨rfl, q, rfl⟩
theorem class_le (r : Int) : classZ r = 0 ∨ classZ r = 1 ∨ classZ r = 2 ∨ classZ r = 3 ∨ classZ r = 4 := by
  unfold classZ classQ
  generalize bits .and .i32 r 65534 = q
  repeat' split
  all_goals simp
theorem walk (w : World) (r : Int) (hr : (Lit.int .i32 r).wf = true) (hL : laidMetH Tryd.prog Rows.fnIsPrintRow.laid w) :
    Calls Tryd.prog 4 #[.int .i32 r] w fun e w' => e = .returned (.bool true) ∧ Below w.heap.size w w' := by
  obtain ⟨h0, h1⟩ := wf_i32 hr
  have hT : PrintT w := printT_of hL (by kernel_rfl) (by simp [Rows.fnIsPrintRow, Rows.laid_strconv_isPrint16]) (by simp [Rows.fnIsPrintRow, Rows.laid_strconv_isNotPrint16]) (by simp [Rows.fnIsPrintRow, Rows.laid_strconv_isPrint32]) (by simp [Rows.fnIsPrintRow, Rows.laid_strconv_isNotPrint32])
  clear hL hr
  have C := Lib.hid (classOf_any r w)
  by_cases hn : r < 0
  · clear hT
    obtain ⟨k, hk⟩ : ∃ k, classZ r = k := ⟨_, rfl⟩
    rw [hk] at C; clear hk
    go_enter Tryd.func4, Tryd.ntmps4
    go_wp2_with (go_at_call 7; refine C.out.mono ?_; rintro e w' ⟨rfl, rfl⟩)
    go_ret
    exact ⟨rfl, Below.refl _ _⟩
  have hn' : decide (r < 0) = false := by simpa using hn
  rcases class_le r with hc | hc | hc | hc | hc
  all_goals rw [hc] at C
  · clear hT hc
    go_enter Tryd.func4, Tryd.ntmps4
    go_wp2_with (go_at_call 7; refine C.out.mono ?_; rintro e w' ⟨rfl, rfl⟩)
    go_ret
    exact ⟨rfl, Below.refl _ _⟩
  · have C2 := Lib.hid (ximpl r w h0 h1 hT true (class_print r (by omega) h1 (.inl hc)))
    clear hT hc
    go_enter Tryd.func4, Tryd.ntmps4
    go_wp2_with (first | (go_at_call 7; refine C.out.mono ?_; rintro e w' ⟨rfl, rfl⟩) | (go_at_call 8; refine C2.out.mono ?_; rintro e w' ⟨rfl, q, rfl⟩))
    go_ret
    exact ⟨rfl, below_drewN _ _⟩
  · have C2 := Lib.hid (ximpl r w h0 h1 hT false (class_not_print r (by omega) h1 (.inl hc)))
    clear hT hc
    go_enter Tryd.func4, Tryd.ntmps4
    go_wp2_with (first | (go_at_call 7; refine C.out.mono ?_; rintro e w' ⟨rfl, rfl⟩) | (go_at_call 8; refine C2.out.mono ?_; rintro e w' ⟨rfl, q, rfl⟩))
    go_ret
    exact ⟨rfl, below_drewN _ _⟩
  · have C2 := Lib.hid (ximpl r w h0 h1 hT false (class_not_print r (by omega) h1 (.inr hc)))
    clear hT hc
    go_enter Tryd.func4, Tryd.ntmps4
    go_wp2_with (first | (go_at_call 7; refine C.out.mono ?_; rintro e w' ⟨rfl, rfl⟩) | (go_at_call 8; refine C2.out.mono ?_; rintro e w' ⟨rfl, q, rfl⟩))
    go_ret
    exact ⟨rfl, below_drewN _ _⟩
  · clear hT hc
    go_enter Tryd.func4, Tryd.ntmps4
    go_wp2_with (go_at_call 7; refine C.out.mono ?_; rintro e w' ⟨rfl, rfl⟩)
    go_ret
    exact ⟨rfl, Below.refl _ _⟩
end Go.Proofs.YtmkgcoddpmcfpaaDoor.fnIsPrint
