/-
  Plain: what a text of less than 19 bytes is in base 10. No program in sight.
-/
import Derived.Test.YtlnokggbejfocaaDoorPlainFive
namespace Go.Proofs.YtlnokggbejfocaaDoor
open Go.RowKit
set_option linter.unusedVariables false
theorem foldV_lt {b : Nat} (hb : 1 ≤ b) : ∀ (l : List UInt8) (n : Nat), (∀ c ∈ l, digN c < b) → foldV b l n < (n + 1) * b ^ l.length
  | [], n, _ => by simp [foldV]
  | c :: r, n, h => by
    have h1 := foldV_lt hb r (n * b + digN c) fun x hx => h x (List.mem_cons_of_mem _ hx)
    have hc := h c (List.mem_cons_self ..)
    rw [foldV, List.length_cons, Nat.pow_succ, Nat.mul_comm (b ^ r.length) b, ← Nat.mul_assoc]
    refine Nat.lt_of_lt_of_le h1 (Nat.mul_le_mul_right _ ?_)
    rw [Nat.add_mul]; omega
theorem digP_digits {b : Nat} : ∀ (l : List UInt8), ∀ c ∈ digP b l, digN c < b
  | [], c, h => by simp [digP] at h
  | x :: r, c, h => by
    rw [digP] at h
    split at h
    · rcases List.mem_cons.1 h with rfl | h
      · assumption
      · exact digP_digits r c h
    · simp at h
theorem digP_length {b : Nat} : ∀ (l : List UInt8), (digP b l).length ≤ l.length
  | [] => by simp [digP]
  | x :: r => by
    rw [digP]; split
    · have := digP_length (b := b) r; simp only [List.length_cons]; omega
    · simp
theorem ten_pow {k : Nat} (h : k < 19) : 10 ^ k ≤ 1000000000000000000 := by
  have := Nat.pow_le_pow_right (n := 10) (by omega) (show k ≤ 18 by omega)
  simpa using this
theorem short_digits {l : List UInt8} (h : l.length < 19) : foldV 10 (digP 10 l) 0 < 1000000000000000000 := by
  have h1 := foldV_lt (b := 10) (by omega) (digP 10 l) 0 (digP_digits l)
  have h2 := digP_length (b := 10) l
  have h3 := ten_pow (k := (digP 10 l).length) (by omega)
  rw [Nat.zero_add, Nat.one_mul] at h1
  omega
theorem pUe_short {l : List UInt8} (h : l.length < 19) : pUe l 10 0 = if l = [] ∨ allD 10 l = false then (0, 2) else (foldV 10 l 0, 0) := by
  rw [pUe]
  by_cases h0 : l = []
  · rw [if_pos h0, if_pos (.inl h0)]
  · rw [if_neg h0, pUb, pre_pos (by omega), show ((10 : Nat) == 0) = false from rfl, scan_char (by omega) l 0 false (Nat.zero_le _)]
    have e : stripU false l = l := rfl
    have hs := short_digits h
    rw [show (2 : Nat) ^ (if (0 : Nat) = 0 then 64 else 0) - 1 = 18446744073709551615 by decide]
    simp only
    rw [e, if_neg (by omega)]
    cases hA : allD 10 l
    · rw [if_pos rfl, if_pos (.inr rfl)]; rfl
    · rw [if_neg (by simp), if_neg (by simp [h0]), resOf, if_neg (by simp)]
/-- what a text of less than 19 bytes is -/
theorem pIe_short {l : List UInt8} (h0 : l ≠ []) (h : l.length < 19) : pIe l 10 0 = if noSign l = [] ∨ allD 10 (noSign l) = false then (0, 2) else (if l[0]? = some 45 then -(foldV 10 (noSign l) 0 : Int) else (foldV 10 (noSign l) 0 : Int), 0) := by
  have hl : (noSign l).length ≤ l.length := by rw [noSign]; split <;> simp
  rw [pIe, if_neg h0, pIb, pUe_short (show (noSign l).length < 19 by omega)]
  have hs := short_digits (l := noSign l) (by omega)
  by_cases hc : noSign l = [] ∨ allD 10 (noSign l) = false
  · rw [if_pos hc, if_pos rfl, if_pos hc]
  · have hA : allD 10 (noSign l) = true := by
      cases hA : allD 10 (noSign l)
      · exact absurd (.inr hA) hc
      · rfl
    rw [digP_all hA] at hs
    have e63 : (2 : Nat) ^ ((if (0 : Nat) = 0 then 64 else 0) - 1) = 9223372036854775808 := by decide
    rw [if_neg hc, if_neg (by simp), e63, if_neg (by omega), if_neg (by omega), if_neg hc]
/-- the digits one behind the other, as Atoi reads them -/
def aLoop : List UInt8 → Nat → Option Nat
  | [], n => some n
  | c :: r, n => if 48 ≤ c.toNat ∧ c.toNat ≤ 57 then aLoop r (n * 10 + (c.toNat - 48)) else none
theorem digN_ten (c : UInt8) : digN c < 10 ↔ 48 ≤ c.toNat ∧ c.toNat ≤ 57 := by
  constructor
  · intro h
    rcases digU_10 false h with h | h
    · exact h
    · exact absurd h.1 (by simp)
  · intro h; rw [digN_number h.1 h.2]; omega
theorem aLoop_eq : ∀ (l : List UInt8) (n : Nat), aLoop l n = if allD 10 l = true then some (foldV 10 l n) else none
  | [], n => rfl
  | c :: r, n => by
    rw [aLoop, allD_cons, foldV]
    by_cases h : 48 ≤ c.toNat ∧ c.toNat ≤ 57
    · rw [if_pos h, aLoop_eq r, digN_number h.1 h.2]
      simp only [show decide (c.toNat - 48 < 10) = true by simp; omega, Bool.true_and]
    · rw [if_neg h, show decide (digN c < 10) = false by rw [← digN_ten] at h; simpa using h]; rfl
end Go.Proofs.YtlnokggbejfocaaDoor
