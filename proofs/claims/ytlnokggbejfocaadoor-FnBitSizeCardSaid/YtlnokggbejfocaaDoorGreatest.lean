/-
  Contract: spec.Greatest is the greatest integer of a number of bits.
-/
import Derived.Test.YtlnokggbejfocaaDoorRows
import Derived.Test.YtlnokggbejfocaaDoorWords
import Derived.WalkKit
import Derived.Lib.Hide
namespace Go.Proofs.YtlnokggbejfocaaDoor
open Go.RowKit
set_option maxRecDepth 100000
set_option linter.unusedVariables false
def bitsN (bits : Nat) : Nat := if bits = 0 then 64 else bits
theorem great_fin : ∀ B : Fin 65, 1 ≤ B.val → IntKind.u64.wrap (IntKind.u64.wrap ((2 : Int) ^ B.val) - 1) = ((2 ^ B.val - 1 : Nat) : Int) ∧ IntKind.u64.wrap (IntKind.u64.wrap ((2 : Int) ^ (B.val - 1)) - 1) = ((2 ^ (B.val - 1) - 1 : Nat) : Int) := by decide +kernel
theorem greatest_u (bits : Int) (h0 : 0 ≤ bits) (h64 : bits ≤ 64) (w : World) : Calls Tryd.prog 28 #[.int .i64 bits, .bool false] w fun e w' => e = .returned (.int .u64 ((2 ^ bitsN bits.toNat - 1 : Nat) : Int)) ∧ w = w' := by
  by_cases hz : bits = 0
  · subst hz
    have h1 := (great_fin 64 (by decide)).1
    have h2 : IntKind.u64.wrap (IntKind.u64.wrap 18446744073709551616 - 1) = 18446744073709551615 := by decide
    clear h1
    go_enter Tryd.func28, Tryd.ntmps28
    go_wp2_with fail
    go_ret
    exact ⟨rfl, rfl⟩
  · obtain ⟨x, hx⟩ : ∃ x : Int, x = ((2 ^ bitsN bits.toNat - 1 : Nat) : Int) := ⟨_, rfl⟩
    rw [← hx]
    have q : (bits == 0) = false := by simpa using hz
    have h1 : IntKind.u64.wrap (IntKind.u64.wrap (2 ^ bits.toNat) - 1) = x := by
      rw [hx, bitsN, if_neg (by omega)]
      exact (great_fin ⟨bits.toNat, by omega⟩ (by simp only; omega)).1
    clear hx hz
    go_enter Tryd.func28, Tryd.ntmps28
    go_wp2_with fail
    go_ret
    exact ⟨rfl, rfl⟩
theorem greatest_s (bits : Int) (h0 : 0 ≤ bits) (h64 : bits ≤ 64) (w : World) : Calls Tryd.prog 28 #[.int .i64 bits, .bool true] w fun e w' => e = .returned (.int .u64 ((2 ^ (bitsN bits.toNat - 1) - 1 : Nat) : Int)) ∧ w = w' := by
  by_cases hz : bits = 0
  · subst hz
    go_enter Tryd.func28, Tryd.ntmps28
    go_wp2_with fail
    go_ret
    exact ⟨rfl, rfl⟩
  · obtain ⟨x, hx⟩ : ∃ x : Int, x = ((2 ^ (bitsN bits.toNat - 1) - 1 : Nat) : Int) := ⟨_, rfl⟩
    rw [← hx]
    have q : (bits == 0) = false := by simpa using hz
    have q1 : 1 ≤ bits := by omega
    have h1 : IntKind.u64.wrap (IntKind.u64.wrap (2 ^ (bits.toNat - 1)) - 1) = x := by
      rw [hx, bitsN, if_neg (by omega)]
      exact (great_fin ⟨bits.toNat, by omega⟩ (by simp only; omega)).2
    clear hx hz
    go_enter Tryd.func28, Tryd.ntmps28
    go_wp2_with fail
    go_ret
    exact ⟨rfl, rfl⟩
end Go.Proofs.YtlnokggbejfocaaDoor
