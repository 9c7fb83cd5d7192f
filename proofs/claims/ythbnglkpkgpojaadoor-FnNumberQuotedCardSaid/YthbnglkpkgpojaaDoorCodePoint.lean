/-
  Contract: spec.IsCodePoint as a plain function of a number.
-/
import Derived.Test.YthbnglkpkgpojaaDoorRows
import Derived.Test.YthbnglkpkgpojaaDoorPlainClass
import Derived.WalkKit
namespace Go.Proofs.YthbnglkpkgpojaaDoor
open Go.RowKit
theorem isCodePoint_any (r : Int) (w : World) : Calls Tryd.prog 12 #[.int .i32 r] w fun e w' => e = .returned (.bool (isCP r)) ∧ w = w' := by
  by_cases h1 : 0 ≤ r <;> by_cases h2 : r ≤ 1114111 <;> by_cases h3 : r < 55296 <;> by_cases h4 : 57343 < r
  all_goals first
    | omega
    | (go_enter Tryd.func12, Tryd.ntmps12
       go_wp2
       go_ret
       exact ⟨by simp [isCP, *], rfl⟩)
end Go.Proofs.YthbnglkpkgpojaaDoor
