/-
  The walk of laws.FnIsGraphic: it returns true.
-/
import Derived.Test.YtmkgcoddpmcfpaaDoorClass
import Derived.Test.YtmkgcoddpmcfpaaDoorPrintTabs
namespace Go.Proofs.YtmkgcoddpmcfpaaDoor.fnIsGraphic
open Go.RowKit
theorem wf_i32 {a : Int} (h : (Lit.int .i32 a).wf = true) : -2147483648 ≤ a ∧ a ≤ 2147483647 := by
  simpa [Lit.wf, IntKind.min, IntKind.max, IntKind.signed, IntKind.bits] using h
theorem ximpl (r : Int) (w : World) (h0 : -2147483648 ≤ r) (h1 : r ≤ 2147483647) (hT : PrintT w) (hG : GraphicT w) (b : Bool) (hb : (printB r || inGraphic r) = b) : Calls Tryd.prog 9 #[.int .i32 r] w fun e w' => e = .returned (.bool b) ∧ ∃ q, w' = w.drewN q := by
  have C := Lib.hid (isGraphic_any r w h0 h1 hT hG)
  rw [hb] at C
  clear hT hG
  go_enter Tryd.func9, Tryd.ntmps9
  go_wp2_with (go_at_call 15; refine C.out.mono ?_; rintro e w' ⟨rfl, q, rfl⟩)
  go_ret
  exact ⟨rfl, q, rfl⟩
theorem class_le (r : Int) : classZ r = 0 ∨ classZ r = 1 ∨ classZ r = 2 ∨ classZ r = 3 ∨ classZ r = 4 := by
  unfold classZ classQ
  generalize bits .and .i32 r 65534 = q
  repeat' split
  all_goals simp
theorem walk (w : World) (r : Int) (hr : (Lit.int .i32 r).wf = true) (hL : laidMetH Tryd.prog Rows.fnIsGraphicRow.laid w) :
    Calls Tryd.prog 5 #[.int .i32 r] w fun e w' => e = .returned (.bool true) ∧ Below w.heap.size w w' := by
  obtain ⟨h0, h1⟩ := wf_i32 hr
  have hT : PrintT w := printT_of hL (by kernel_rfl) (by simp [Rows.fnIsGraphicRow, Rows.laid_strconv_isPrint16]) (by simp [Rows.fnIsGraphicRow, Rows.laid_strconv_isNotPrint16]) (by simp [Rows.fnIsGraphicRow, Rows.laid_strconv_isPrint32]) (by simp [Rows.fnIsGraphicRow, Rows.laid_strconv_isNotPrint32])
  have hG : GraphicT w := graphicT_of hL (by kernel_rfl) (by simp [Rows.fnIsGraphicRow, Rows.laid_strconv_isGraphic])
  clear hL hr
  have C := Lib.hid (classOf_any r w)
  by_cases hn : r < 0
  · clear hT hG
    obtain ⟨k, hk⟩ : ∃ k, classZ r = k := ⟨_, rfl⟩
    rw [hk] at C; clear hk
    go_enter Tryd.func5, Tryd.ntmps5
    go_wp2_with (go_at_call 7; refine C.out.mono ?_; rintro e w' ⟨rfl, rfl⟩)
    go_ret
    exact ⟨rfl, Below.refl _ _⟩
  have hn' : decide (r < 0) = false := by simpa using hn
  rcases class_le r with hc | hc | hc | hc | hc
  all_goals rw [hc] at C
  · clear hT hG hc
    go_enter Tryd.func5, Tryd.ntmps5
    go_wp2_with (go_at_call 7; refine C.out.mono ?_; rintro e w' ⟨rfl, rfl⟩)
    go_ret
    exact ⟨rfl, Below.refl _ _⟩
  · have C2 := Lib.hid (ximpl r w h0 h1 hT hG true (by rw [show printB r = true from class_print r (by omega) h1 (.inl hc)]; rfl))
    clear hT hG hc
    go_enter Tryd.func5, Tryd.ntmps5
    go_wp2_with (first | (go_at_call 7; refine C.out.mono ?_; rintro e w' ⟨rfl, rfl⟩) | (go_at_call 9; refine C2.out.mono ?_; rintro e w' ⟨rfl, q, rfl⟩))
    go_ret
    exact ⟨rfl, below_drewN _ _⟩
  · have C2 := Lib.hid (ximpl r w h0 h1 hT hG true (by rw [(inGraphic_eq r (by omega)).2 ((class_two r).1 hc)]; simp))
    clear hT hG hc
    go_enter Tryd.func5, Tryd.ntmps5
    go_wp2_with (first | (go_at_call 7; refine C.out.mono ?_; rintro e w' ⟨rfl, rfl⟩) | (go_at_call 9; refine C2.out.mono ?_; rintro e w' ⟨rfl, q, rfl⟩))
    go_ret
    exact ⟨rfl, below_drewN _ _⟩
  · have C2 := Lib.hid (ximpl r w h0 h1 hT hG false (by rw [show printB r = false from class_not_print r (by omega) h1 (.inr hc)]; cases hi : inGraphic r; rfl; have := (class_two r).2 ((inGraphic_eq r (by omega)).1 hi); omega))
    clear hT hG hc
    go_enter Tryd.func5, Tryd.ntmps5
    go_wp2_with (first | (go_at_call 7; refine C.out.mono ?_; rintro e w' ⟨rfl, rfl⟩) | (go_at_call 9; refine C2.out.mono ?_; rintro e w' ⟨rfl, q, rfl⟩))
    go_ret
    exact ⟨rfl, below_drewN _ _⟩
  · have C2 := Lib.hid (ximpl r w h0 h1 hT hG true (by rw [show printB r = true from class_print r (by omega) h1 (.inr hc)]; rfl))
    clear hT hG hc
    go_enter Tryd.func5, Tryd.ntmps5
    go_wp2_with (first | (go_at_call 7; refine C.out.mono ?_; rintro e w' ⟨rfl, rfl⟩) | (go_at_call 9; refine C2.out.mono ?_; rintro e w' ⟨rfl, q, rfl⟩))
    go_ret
    exact ⟨rfl, below_drewN _ _⟩
end Go.Proofs.YtmkgcoddpmcfpaaDoor.fnIsGraphic
