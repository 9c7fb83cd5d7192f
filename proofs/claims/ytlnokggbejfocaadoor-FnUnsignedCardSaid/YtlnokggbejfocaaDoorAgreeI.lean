/-
  Plain: the library reads a number with a sign as the reference does, where the reference tells. No program is walked here.
-/
import Derived.Test.YtlnokggbejfocaaDoorSpecParseI
namespace Go.Proofs.YtlnokggbejfocaaDoor
open Go.RowKit
set_option linter.unusedVariables false
theorem pow_split {B : Nat} (h : 1 ≤ B) : 2 ^ B = 2 ^ (B - 1) + 2 ^ (B - 1) := by
  obtain ⟨c, rfl⟩ : ∃ c, B = c + 1 := ⟨B - 1, by omega⟩
  rw [show c + 1 - 1 = c by omega, Nat.pow_succ]; omega
theorem pow_two {B : Nat} (h : 2 ≤ B) : 2 ≤ 2 ^ (B - 1) := by
  obtain ⟨c, rfl⟩ : ∃ c, B = c + 2 := ⟨B - 2, by omega⟩
  rw [show c + 2 - 1 = c + 1 by omega, Nat.pow_succ]
  have : 1 ≤ 2 ^ c := Nat.one_le_two_pow
  omega
/-- where the reference tells, the library answers so -/
theorem agreedI (l : List UInt8) (base bits : Nat) (hb : base = 0 ∨ 2 ≤ base ∧ base ≤ 36) (h1 : bits ≠ 1) (hop : (iSpec (specRead (noSign l) base) (!l.isEmpty) (isMinus l) (mostN bits (isMinus l))).2.2 = false) :
    ∃ (v : Int) (k : Nat), pIe l base bits = (v, k) ∧ ((k = 0 ∧ (iSpec (specRead (noSign l) base) (!l.isEmpty) (isMinus l) (mostN bits (isMinus l))).2.1 = 0) ∨ (k = 1 ∧ (iSpec (specRead (noSign l) base) (!l.isEmpty) (isMinus l) (mostN bits (isMinus l))).2.1 = 2) ∨ (k = 2 ∧ (iSpec (specRead (noSign l) base) (!l.isEmpty) (isMinus l) (mostN bits (isMinus l))).2.1 = 1)) ∧ (iSpec (specRead (noSign l) base) (!l.isEmpty) (isMinus l) (mostN bits (isMinus l))).1 = v := by
  have hA := agree (noSign l) base bits hb
  have hB2 : 2 ≤ bitsN bits := by rw [bitsN]; split <;> omega
  have hp1 := pow_split (B := bitsN bits) (by omega)
  have hp2 := pow_two hB2
  have hmN : mostN bits (isMinus l) = if isMinus l = true then 2 ^ (bitsN bits - 1) else 2 ^ (bitsN bits - 1) - 1 := rfl
  have hP : pIe l base bits = if l = [] then (0, 2) else if (pUe (noSign l) base bits).2 = 2 then (0, 2)
      else if isMinus l = false ∧ 2 ^ (bitsN bits - 1) ≤ (pUe (noSign l) base bits).1 then (((2 ^ (bitsN bits - 1) : Nat) : Int) - 1, 1)
      else if isMinus l = true ∧ 2 ^ (bitsN bits - 1) < (pUe (noSign l) base bits).1 then (-((2 ^ (bitsN bits - 1) : Nat) : Int), 1)
      else (if isMinus l = true then -((pUe (noSign l) base bits).1 : Int) else ((pUe (noSign l) base bits).1 : Int), 0) := by
    rw [pIe, pIb, bitsN, isMinus]; simp only [decide_eq_true_eq, decide_eq_false_iff_not]
  rw [show (if bits = 0 then 64 else bits) = bitsN bits from rfl] at hA
  rw [hmN] at hop ⊢
  rw [hP]
  have hnil : l = [] → (specRead (noSign l) base).good = false := by
    rintro rfl
    unfold specRead specBase
    by_cases h0 : base ≠ 0
    · simp [h0, readDig, noSign]
    · simp [h0, readDig, noU, noSign]
  generalize hM : 2 ^ bitsN bits = M at *
  generalize hH : 2 ^ (bitsN bits - 1) = H at *
  generalize specRead (noSign l) base = r at *
  generalize isMinus l = mn at *
  obtain ⟨g, o, v⟩ := r
  simp only at hA hnil
  unfold iSpec at hop ⊢
  simp only at hop ⊢
  by_cases hl : l = []
  · have hg : g = false := hnil hl
    subst hg
    rw [if_pos hl]
    exact ⟨0, 2, rfl, .inr (.inr ⟨rfl, by rw [if_pos rfl]⟩), by rw [if_pos rfl]⟩
  · rw [if_neg hl]
    have hne : (!l.isEmpty) = true := by simpa using hl
    rw [hne] at hop ⊢
    cases g
    · simp only [if_true, Bool.true_and, Bool.or_eq_false_iff, decide_eq_false_iff_not] at hop ⊢ hA
      have := hA (fun _ => hop.1) (fun _ _ => by have := hop.2; split at this <;> omega)
      rw [this]
      exact ⟨0, 2, by simp, by simp, rfl⟩
    · simp only [Bool.true_eq_false, if_false] at hop ⊢ hA
      have hU := fun ho => hA (fun _ => ho) (fun h => by cases h)
      have ho : o = false := by
        repeat' split at hop
        all_goals exact hop
      have hU := hU ho
      by_cases hbig : M - 1 < v
      · rw [if_pos hbig] at hU
        rw [hU]
        cases mn
        · simp only [Bool.false_eq_true, if_false, true_and, false_and] at hop ⊢
          rw [if_pos (show H - 1 < v by omega), if_neg (by omega), if_pos (by omega)]
          exact ⟨_, 1, rfl, .inr (.inl ⟨rfl, rfl⟩), by simp only; omega⟩
        · simp only [Bool.true_eq_false, if_true, if_false, true_and, false_and] at hop ⊢
          rw [if_pos (show H < v by omega), if_neg (by omega), if_pos (by omega)]
          exact ⟨_, 1, rfl, .inr (.inl ⟨rfl, rfl⟩), rfl⟩
      · rw [if_neg hbig] at hU
        rw [hU]
        cases mn
        · simp only [Bool.false_eq_true, if_false, true_and, false_and] at hop ⊢
          rw [if_neg (show ¬ (0 : Nat) = 2 by omega)]
          by_cases hm : H ≤ v
          · rw [if_pos hm, if_pos (show H - 1 < v by omega)]
            exact ⟨_, 1, rfl, .inr (.inl ⟨rfl, rfl⟩), by simp only; omega⟩
          · rw [if_neg hm, if_neg (show ¬ H - 1 < v by omega)]
            exact ⟨_, 0, rfl, .inl ⟨rfl, rfl⟩, rfl⟩
        · simp only [Bool.true_eq_false, if_true, if_false, true_and, false_and] at hop ⊢
          rw [if_neg (show ¬ (0 : Nat) = 2 by omega)]
          by_cases hm : H < v
          · rw [if_pos hm, if_pos hm]
            exact ⟨_, 1, rfl, .inr (.inl ⟨rfl, rfl⟩), rfl⟩
          · rw [if_neg hm, if_neg hm]
            exact ⟨_, 0, rfl, .inl ⟨rfl, rfl⟩, rfl⟩
end Go.Proofs.YtlnokggbejfocaaDoor
