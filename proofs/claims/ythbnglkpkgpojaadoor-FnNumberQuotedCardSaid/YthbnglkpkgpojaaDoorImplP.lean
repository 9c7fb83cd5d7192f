/-
  Contracts: the thin package's IsPrint and IsGraphic; rows of numbers.
-/
import Derived.Test.YthbnglkpkgpojaaDoorRowWords
import Derived.Test.YthbnglkpkgpojaaDoorOwn
import Derived.Test.YthbnglkpkgpojaaDoorPlainQuote
import Derived.Test.YthbnglkpkgpojaaDoorPrintTabs
import Derived.Outline
namespace Go.Proofs.YthbnglkpkgpojaaDoor
open Go.RowKit
set_option linter.unusedVariables false
def icells (l : List Int) : List Value := l.map (Value.int .i32)
theorem icells_length (l : List Int) : (icells l).length = l.length := by simp [icells]
theorem ximplP (r : Int) (w : World) (h0 : -2147483648 ≤ r) (h1 : r ≤ 2147483647) (hT : PrintT w) : Calls Tryd.prog 10 #[.int .i32 r] w fun e w' => e = .returned (.bool (printB r)) ∧ ∃ q, w' = w.drewN q := by
  have C := Lib.hid (isPrint_any r w h0 h1 hT)
  clear hT
  go_enter Tryd.func10, Tryd.ntmps10
  go_wp2_with (go_at_call 32; refine C.out.mono ?_; rintro e w' ⟨rfl, q, rfl⟩)
  go_ret
  exact ⟨rfl, q, rfl⟩
theorem ximplG (r : Int) (w : World) (h0 : -2147483648 ≤ r) (h1 : r ≤ 2147483647) (hT : PrintT w) (hG : GraphicT w) : Calls Tryd.prog 11 #[.int .i32 r] w fun e w' => e = .returned (.bool (printB r || inGraphic r)) ∧ ∃ q, w' = w.drewN q := by
  have C := Lib.hid (isGraphic_any r w h0 h1 hT hG)
  clear hT hG
  obtain ⟨b, hb⟩ : ∃ b, (printB r || inGraphic r) = b := ⟨_, rfl⟩
  rw [hb] at C ⊢
  clear hb
  go_enter Tryd.func11, Tryd.ntmps11
  go_wp2_with (go_at_call 33; refine C.out.mono ?_; rintro e w' ⟨rfl, q, rfl⟩)
  go_ret
  exact ⟨rfl, q, rfl⟩
end Go.Proofs.YthbnglkpkgpojaaDoor
