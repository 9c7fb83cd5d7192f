/-
  The row of the byte's type in the program's table.
-/
import Derived.Test.YthbnglkpkgpojaaDoorRows
import Derived.Test.YthbnglkpkgpojaaDoorWords
import Derived.WalkKit
import Derived.WalkSpells
import Derived.Lib.Hide
import Derived.Laws.BytesArg
namespace Go.Proofs.YthbnglkpkgpojaaDoor
open Go.RowKit
theorem byte_info : (Tryd.prog.info? 5).map (fun i => (i.zero, i.size, i.bytes)) = some (some (.int .u8 0), 1, 1) := by kernel_rfl
end Go.Proofs.YthbnglkpkgpojaaDoor
