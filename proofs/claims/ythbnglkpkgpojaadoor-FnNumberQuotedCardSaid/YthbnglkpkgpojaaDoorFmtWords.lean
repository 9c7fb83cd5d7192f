/-
  Words for the digits of a number: rows of bytes, the step of the loop. No program in sight. (Cut out of XSpecFormat.)
-/
import Derived.Test.YthbnglkpkgpojaaDoorPlainNum
import Derived.Test.YthbnglkpkgpojaaDoorByteInfo
import Derived.Outline
import Derived.WalkKit
namespace Go.Proofs.YthbnglkpkgpojaaDoor
set_option maxRecDepth 100000
open Go.RowKit
set_option linter.unusedVariables false
set_option linter.unusedSimpArgs false
theorem Own.form' {T B v xs W0 w} (h : Own T B v xs W0 w) (hn : 0 < xs.length) : ∃ g c, v = .slice (some ⟨g, 0, none⟩) xs.length c ∧ xs.length ≤ c ∧ c ≤ maxLen := by
  rcases h.1.2 with ⟨rfl, h0⟩ | ⟨g, cap, cur, rfl, _, _, h1, h2, _⟩
  · omega
  · exact ⟨g, cap, rfl, h1, h2⟩
def lenOf (v : Value) : Nat := match v with | .slice _ n _ => n | _ => 0
theorem bcells_set (l : List UInt8) (k : Nat) (b : UInt8) : bcells (l.set k b) = (bcells l).set k (.int .u8 b.toNat) := by simp [bcells, List.map_set]
theorem bcells_at {l : List UInt8} {k : Nat} {b : UInt8} (h : l[k]? = some b) : (bcells l)[k]? = some (.int .u8 b.toNat) := by simp [bcells, h]
theorem fmt_step {b u u0 : Nat} {D : List UInt8} (h2 : 2 ≤ b) (h : (D = [] ∧ u = u0) ∨ (D ≠ [] ∧ D ++ tailB b u = revB b u0)) (hgo : 0 < u ∨ D = []) : D ++ [dgc (u % b)] ++ tailB b (u / b) = revB b u0 := by
  rcases h with ⟨rfl, rfl⟩ | ⟨hD, h⟩
  · simpa using (revB_step h2).symm
  · have hu : u ≠ 0 := by
      rcases hgo with h | h
      · omega
      · exact absurd h hD
    rw [← h, List.append_assoc, tailB_step h2 hu]; rfl
theorem fmt_meas {b u n : Nat} (h2 : 2 ≤ b) (hgo : 0 < u ∨ n = 0) : u / b + 0 < u + (if n = 0 then 1 else 0) := by
  rcases Nat.eq_zero_or_pos u with h0 | h0
  · subst h0
    rw [if_pos (by omega), Nat.zero_div]; omega
  · have := Nat.div_lt_self h0 (show 1 < b by omega)
    omega
end Go.Proofs.YthbnglkpkgpojaaDoor
