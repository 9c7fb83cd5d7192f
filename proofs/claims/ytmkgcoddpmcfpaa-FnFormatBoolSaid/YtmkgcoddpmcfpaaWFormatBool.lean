/-
  The walk of laws.FnFormatBool: it returns true.
-/
import Derived.Test.YtmkgcoddpmcfpaaRows
import Derived.WalkKit
import Derived.Below
namespace Go.Proofs.Ytmkgcoddpmcfpaa.fnFormatBool
open Go.RowKit
theorem walk (w : World) (b : Bool) : Calls Try.prog 3 #[.bool b] w fun e w' => e = .returned (.bool true) ∧ Below w.heap.size w w' := by
  cases b
  all_goals
    go_enter Try.func3, Try.ntmps3
    go_wp2
    go_ret
    exact ⟨rfl, Below.refl _ _⟩
end Go.Proofs.Ytmkgcoddpmcfpaa.fnFormatBool
