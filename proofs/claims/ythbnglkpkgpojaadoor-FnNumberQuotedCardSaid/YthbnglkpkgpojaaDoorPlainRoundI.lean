/-
  Plain: a number with a sign is read back from its digits. No program in sight.
-/
import Derived.Test.YthbnglkpkgpojaaDoorPlainRound
namespace Go.Proofs.YthbnglkpkgpojaaDoor
open Go.RowKit
theorem digB_head {b : Nat} (h2 : 2 ≤ b) (h36 : b ≤ 36) (u : Nat) : ¬ (digB b u)[0]? = some 45 ∧ ¬ (digB b u)[0]? = some 43 := by
  constructor
  · intro h
    have := digB_lt_b h2 h36 u 45 (List.mem_of_getElem? h)
    have e : digN 45 = 99 := by decide
    omega
  · intro h
    have := digB_lt_b h2 h36 u 43 (List.mem_of_getElem? h)
    have e : digN 43 = 99 := by decide
    omega
theorem noSign_digB {b : Nat} (h2 : 2 ≤ b) (h36 : b ≤ 36) (u : Nat) : noSign (digB b u) = digB b u := by
  have := digB_head h2 h36 u
  rw [noSign, if_neg (by rintro (h | h); exact this.1 h; exact this.2 h)]
theorem noSign_minus (l : List UInt8) : noSign (45 :: l) = l := by rw [noSign, if_pos (.inl rfl)]; rfl
theorem noSign_plus (l : List UInt8) : noSign (43 :: l) = l := by rw [noSign, if_pos (.inr rfl)]; rfl
theorem half_le {B : Nat} (h : 2 ≤ B) : 2 * 2 ^ (B - 1) = 2 ^ B ∧ 2 ≤ 2 ^ (B - 1) := by
  obtain ⟨k, rfl⟩ : ∃ k, B = k + 2 := ⟨B - 2, by omega⟩
  have h1 : 2 ^ (k + 2 - 1) = 2 ^ k * 2 := by rw [show k + 2 - 1 = k + 1 by omega, Nat.pow_succ]
  have h2 : 2 ^ (k + 2) = 2 ^ k * 2 * 2 := by rw [Nat.pow_succ, Nat.pow_succ]
  have h3 : 1 ≤ 2 ^ k := Nat.one_le_two_pow
  omega
/-- digits without a sign, read as a number with one -/
theorem pIe_pos {b bits u : Nat} (l : List UInt8) (hne : l ≠ []) (hB : 2 ≤ (if bits = 0 then 64 else bits)) (h45 : ¬ l[0]? = some 45)
    (hu : pUe (noSign l) b bits = if u ≤ 2 ^ (if bits = 0 then 64 else bits) - 1 then (u, 0) else (2 ^ (if bits = 0 then 64 else bits) - 1, 1)) :
    pIe l b bits = if (u : Int) ≤ ((2 ^ ((if bits = 0 then 64 else bits) - 1) : Nat) : Int) - 1 then ((u : Int), 0) else (((2 ^ ((if bits = 0 then 64 else bits) - 1) : Nat) : Int) - 1, 1) := by
  generalize hBB : (if bits = 0 then 64 else bits) = B at *
  rw [pIe, if_neg hne, pIb, hBB, hu]
  obtain ⟨p1, p2⟩ := half_le hB
  generalize hH : 2 ^ (B - 1) = H at *
  rw [← p1]
  by_cases h1 : u ≤ 2 * H - 1
  · rw [if_pos h1]
    simp only [h45, not_false_eq_true, true_and, false_and, if_false, show ¬ ((0 : Nat) = 2) by decide]
    by_cases h2 : H ≤ u
    · rw [if_pos h2, if_neg (by omega)]
    · rw [if_neg h2, if_pos (by omega)]
  · rw [if_neg h1]
    simp only [h45, not_false_eq_true, true_and, false_and, if_false, show ¬ ((1 : Nat) = 2) by decide]
    rw [if_pos (by omega), if_neg (by omega)]
/-- digits behind a minus -/
theorem pIe_neg {b bits u : Nat} (l : List UInt8) (hB : 2 ≤ (if bits = 0 then 64 else bits))
    (hu : pUe l b bits = if u ≤ 2 ^ (if bits = 0 then 64 else bits) - 1 then (u, 0) else (2 ^ (if bits = 0 then 64 else bits) - 1, 1)) :
    pIe (45 :: l) b bits = if -((2 ^ ((if bits = 0 then 64 else bits) - 1) : Nat) : Int) ≤ -(u : Int) then (-(u : Int), 0) else (-((2 ^ ((if bits = 0 then 64 else bits) - 1) : Nat) : Int), 1) := by
  generalize hBB : (if bits = 0 then 64 else bits) = B at *
  rw [pIe, if_neg (by simp), pIb, hBB, noSign_minus, hu]
  obtain ⟨p1, p2⟩ := half_le hB
  generalize hH : 2 ^ (B - 1) = H at *
  rw [← p1]
  have h45 : (45 :: l)[0]? = some 45 := rfl
  by_cases h1 : u ≤ 2 * H - 1
  · rw [if_pos h1]
    simp only [h45, not_true_eq_false, true_and, false_and, if_false, if_true, show ¬ ((0 : Nat) = 2) by decide]
    by_cases h2 : H < u
    · rw [if_pos h2, if_neg (by omega)]
    · rw [if_neg h2, if_pos (by omega)]
  · rw [if_neg h1]
    simp only [h45, not_true_eq_false, true_and, false_and, if_false, if_true, show ¬ ((1 : Nat) = 2) by decide]
    rw [if_pos (by omega), if_neg (by omega)]
theorem pIe_fmtI {b bits : Nat} (h2 : 2 ≤ b) (h36 : b ≤ 36) (hB : 2 ≤ (if bits = 0 then 64 else bits)) (i : Int) :
    pIe (fmtI b i) b bits = if i ≤ ((2 ^ ((if bits = 0 then 64 else bits) - 1) : Nat) : Int) - 1 then (if -((2 ^ ((if bits = 0 then 64 else bits) - 1) : Nat) : Int) ≤ i then (i, 0) else (-((2 ^ ((if bits = 0 then 64 else bits) - 1) : Nat) : Int), 1)) else (((2 ^ ((if bits = 0 then 64 else bits) - 1) : Nat) : Int) - 1, 1) := by
  by_cases hi : i < 0
  · rw [fmtI, if_pos hi, pIe_neg (u := i.natAbs) _ hB (pUe_digB h2 h36 _), show -((i.natAbs : Nat) : Int) = i by omega, if_pos (show i ≤ ((2 ^ ((if bits = 0 then 64 else bits) - 1) : Nat) : Int) - 1 from (fun (H : Nat) => (by omega : i ≤ (H : Int) - 1)) _)]
  · rw [fmtI, if_neg hi, pIe_pos (u := i.toNat) _ digB_ne hB (digB_head h2 h36 _).1 (by rw [noSign_digB h2 h36]; exact pUe_digB h2 h36 _), show ((i.toNat : Nat) : Int) = i by omega]
    by_cases h : i ≤ ((2 ^ ((if bits = 0 then 64 else bits) - 1) : Nat) : Int) - 1
    · rw [if_pos h, if_pos h, if_pos ((fun (H : Nat) => (by omega : -(H : Int) ≤ i)) _)]
    · rw [if_neg h, if_neg h]
end Go.Proofs.YthbnglkpkgpojaaDoor
