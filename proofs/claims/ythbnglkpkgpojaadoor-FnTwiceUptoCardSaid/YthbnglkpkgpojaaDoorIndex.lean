/-
  Contracts: strconv.index and strconv.contains: the place of a byte in a text.
-/
import Derived.Test.YthbnglkpkgpojaaDoorRows
import Derived.Test.YthbnglkpkgpojaaDoorStrWords
import Derived.WalkKit
import Derived.WalkSpells
import Derived.OwnWalk
import Derived.Laws.StandIn
import Derived.Lib.Bytealg
import Derived.Lib.Hide
import Derived.Outline
namespace Go.Proofs.YthbnglkpkgpojaaDoor
open Go.RowKit
set_option maxRecDepth 1000000
set_option linter.unusedVariables false
set_option linter.unusedSimpArgs false
theorem ibs_run (l : List UInt8) (c : UInt8) (w : World) : (callFunc 87 #[.string (str l), .int .u8 (c.toNat : Int)]).run Tryd.prog w = .ok (.value (.int .i64 (Lib.indexByte l c))) w := by
  rw [run_callFunc_indexByte Tryd.func87 (by kernel_rfl) (by kernel_rfl) (by kernel_rfl) (by kernel_rfl), Lib.run_indexByteString]
  have e : ((c.toNat : Int)).toNat.toUInt8 = c := by simp
  rw [toList_str, e]; rfl
theorem index_any (l : List UInt8) (q : Int) (c : UInt8) (hc : q = (c.toNat : Int)) (w : World) : Calls Tryd.prog 70 #[.string (str l), .int .u8 q] w fun e w' => e = .returned (.int .i64 (Lib.indexByte l c)) ∧ w = w' := by
  have hr := ibs_run l c w
  rw [← hc] at hr
  obtain ⟨z, hz⟩ : ∃ z, z = Lib.indexByte l c := ⟨_, rfl⟩
  rw [← hz] at hr ⊢
  clear hz hc
  go_enter Tryd.func70, Tryd.ntmps70
  go_wp2_with fail
  go_ret
  exact ⟨rfl, rfl⟩
theorem contains_any (l : List UInt8) (q : Int) (c : UInt8) (hc : q = (c.toNat : Int)) (b : Bool) (hb : b = (Lib.indexByte l c != -1)) (w : World) : Calls Tryd.prog 71 #[.string (str l), .int .u8 q] w fun e w' => e = .returned (.bool b) ∧ w = w' := by
  have C := Lib.hid (index_any l q c hc w)
  obtain ⟨z, hz⟩ : ∃ z, z = Lib.indexByte l c := ⟨_, rfl⟩
  rw [← hz] at C hb
  subst hb
  clear hz hc
  go_enter Tryd.func71, Tryd.ntmps71
  go_wp2_with (go_at_call 70; refine C.out.mono ?_; rintro e w' ⟨rfl, rfl⟩)
  go_ret
  exact ⟨by first | rfl | simp, rfl⟩
end Go.Proofs.YthbnglkpkgpojaaDoor
