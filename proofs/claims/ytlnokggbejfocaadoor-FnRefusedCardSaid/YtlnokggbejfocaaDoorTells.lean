/-
  Contract: laws.tells tells whether a failure is as due.
-/
import Derived.Test.YtlnokggbejfocaaDoorFail
import Derived.Test.YtlnokggbejfocaaDoorStrWords
namespace Go.Proofs.YtlnokggbejfocaaDoor
open Go.RowKit
set_option maxRecDepth 100000
set_option linter.unusedVariables false
theorem tells_fits (k : Int) (fn num : ByteArray) (fn' s : ByteArray) (w : World) : Calls Tryd.prog 16 #[failV k fn num, .int .i64 0, .string fn', .string s] w fun e w' => e = .returned (.bool (k == 0)) ∧ Below w.heap.size w w' := by
  unfold failV
  go_enter Tryd.func16, Tryd.ntmps16
  go_wp2
  go_ret
  exact ⟨rfl, (Below.refl _ _).alloc (Nat.le_refl _) _⟩
theorem tells_same (k : Int) (hk : (k == 0) = false) (fn num : List UInt8) (w : World) : Calls Tryd.prog 16 #[failV k (str fn) (str num), .int .i64 k, .string (str fn), .string (str num)] w fun e w' => e = .returned (.bool true) ∧ Below w.heap.size w w' := by
  unfold failV
  have e1 : (str fn).toList = fn := by rw [Lib.toList_data]; rfl
  have e2 : (str num).toList = num := by rw [Lib.toList_data]; rfl
  go_enter Tryd.func16, Tryd.ntmps16
  go_wp2
  go_ret
  exact ⟨rfl, (Below.refl _ _).alloc (Nat.le_refl _) _⟩
end Go.Proofs.YtlnokggbejfocaaDoor
