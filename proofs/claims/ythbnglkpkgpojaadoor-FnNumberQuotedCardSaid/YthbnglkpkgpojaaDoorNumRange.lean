/-
  Small words: what a number of a kind is bounded by; the bases that are asked; the contracts at an Int.
-/
import Derived.Test.YthbnglkpkgpojaaDoorFmt
namespace Go.Proofs.YthbnglkpkgpojaaDoor
set_option maxRecDepth 100000
open Go.RowKit
theorem wf_i64 {x : Int} (h : (Lit.int .i64 x).wf = true) : -9223372036854775808 ≤ x ∧ x ≤ 9223372036854775807 := by simpa [Lit.wf, IntKind.min, IntKind.max, IntKind.signed, IntKind.bits] using h
theorem wf_u64 {x : Int} (h : (Lit.int .u64 x).wf = true) : 0 ≤ x ∧ x ≤ 18446744073709551615 := by simpa [Lit.wf, IntKind.min, IntKind.max, IntKind.signed, IntKind.bits] using h
theorem base_cases (b : Int) : b < 2 ∨ 36 < b ∨ ∃ n : Nat, b = n ∧ 2 ≤ n ∧ n ≤ 36 := by
  by_cases h : b < 2
  · exact .inl h
  · by_cases h2 : 36 < b
    · exact .inr (.inl h2)
    · exact .inr (.inr ⟨b.toNat, by omega, by omega, by omega⟩)
theorem FormatUint_int (x : Int) (b : Nat) (w : World) (h2 : 2 ≤ b) (h36 : b ≤ 36) (h0 : 0 ≤ x) (h1 : x < 18446744073709551616) (hT : NumT w) :
    Calls Tryd.prog 30 #[.int .u64 x, .int .i64 b] w fun e w' => e = .returned (.string (str (digB b x.toNat))) ∧ Below w.heap.size w w' := by
  obtain ⟨n, rfl⟩ : ∃ n : Nat, x = n := ⟨x.toNat, by omega⟩
  exact FormatUint_any n b w h2 h36 (by omega) hT
end Go.Proofs.YthbnglkpkgpojaaDoor
