/-
  Plain: the digits of numbers are ordered as the numbers are. No program in sight.
-/
import Derived.Test.YthbnglkpkgpojaaDoorPlainNum
namespace Go.Proofs.YthbnglkpkgpojaaDoor
open Go.RowKit
theorem digB_small {b u : Nat} (h : u < b) : digB b u = [dgc u] := by rw [digB, revB_small h]; rfl
theorem digB_big {b u : Nat} (h2 : 2 ≤ b) (h : b ≤ u) : digB b u = digB b (u / b) ++ [dgc (u % b)] := by rw [digB, revB_big h2 h, List.reverse_cons, digB]
theorem dgc_lt {a c : Nat} (ha : a < 36) (hc : c < 36) : dgc a < dgc c ↔ a < c := by
  rw [UInt8.lt_iff_toNat_lt, dgc_toNat ha, dgc_toNat hc]
  split <;> split <;> omega
theorem dgc_inj {a c : Nat} (ha : a < 36) (hc : c < 36) : dgc a = dgc c ↔ a = c := by
  constructor
  · intro h
    have := congrArg UInt8.toNat h
    rw [dgc_toNat ha, dgc_toNat hc] at this
    split at this <;> split at this <;> omega
  · rintro rfl; rfl
theorem digB_pos (b u : Nat) : 1 ≤ (digB b u).length := List.length_pos_iff.2 digB_ne
theorem bytesLess_snoc : ∀ (x y : List UInt8) (a c : UInt8), x.length = y.length → (Op.bytesLess (x ++ [a]) (y ++ [c]) = true ↔ Op.bytesLess x y = true ∨ (x = y ∧ a < c))
  | [], [], a, c, _ => by simp [Op.bytesLess]
  | p :: x, q :: y, a, c, h => by
    have ih := bytesLess_snoc x y a c (by simpa using h)
    simp only [List.cons_append, Op.bytesLess, Bool.or_eq_true, decide_eq_true_eq, Bool.and_eq_true, beq_iff_eq, ih, List.cons.injEq]
    constructor
    · rintro (h | ⟨h, h' | ⟨h1, h2⟩⟩)
      · exact .inl (.inl h)
      · exact .inl (.inr ⟨h, h'⟩)
      · exact .inr ⟨⟨h, h1⟩, h2⟩
    · rintro ((h | ⟨h, h'⟩) | ⟨⟨h, h1⟩, h2⟩)
      · exact .inl h
      · exact .inr ⟨h, .inl h'⟩
      · exact .inr ⟨h, .inr ⟨h1, h2⟩⟩
theorem digB_inj {b : Nat} (h2 : 2 ≤ b) (h36 : b ≤ 36) (u : Nat) : ∀ v, digB b u = digB b v → u = v := by
  induction u using Nat.strongRecOn with
  | _ u ih =>
    intro v h
    by_cases hu : u < b
    · by_cases hv : v < b
      · rw [digB_small hu, digB_small hv] at h
        exact (dgc_inj (by omega) (by omega)).1 (by simpa using h)
      · rw [digB_small hu, digB_big h2 (by omega)] at h
        have hh := congrArg List.length h
        have := digB_pos b (v / b)
        rw [List.length_append] at hh
        simp only [List.length_cons, List.length_nil] at hh; omega
    · by_cases hv : v < b
      · rw [digB_small hv, digB_big h2 (by omega)] at h
        have hh := congrArg List.length h
        have := digB_pos b (u / b)
        rw [List.length_append] at hh
        simp only [List.length_cons, List.length_nil] at hh; omega
      · rw [digB_big h2 (by omega), digB_big (u := v) h2 (by omega)] at h
        obtain ⟨h1, h3⟩ := List.append_inj' h rfl
        have e1 := ih (u / b) (Nat.div_lt_self (by omega) (by omega)) _ h1
        have e2 := (dgc_inj (Nat.lt_of_lt_of_le (Nat.mod_lt u (by omega)) h36) (Nat.lt_of_lt_of_le (Nat.mod_lt v (by omega)) h36)).1 (by simpa using h3)
        rw [← Nat.div_add_mod u b, ← Nat.div_add_mod v b, e1, e2]
theorem div_mod_lt {b u v : Nat} : u < v ↔ u / b < v / b ∨ (u / b = v / b ∧ u % b < v % b) := by
  constructor
  · intro h
    have h1 : u / b ≤ v / b := Nat.div_le_div_right (by omega)
    rcases Nat.lt_or_ge (u / b) (v / b) with h3 | h3
    · exact .inl h3
    · have e : u / b = v / b := by omega
      have eu := Nat.div_add_mod u b
      have ev := Nat.div_add_mod v b
      rw [e] at eu
      exact .inr ⟨e, by omega⟩
  · rintro (h | ⟨h, h'⟩)
    · rcases Nat.lt_or_ge u v with h3 | h3
      · exact h3
      · have := Nat.div_le_div_right (c := b) h3
        omega
    · have eu := Nat.div_add_mod u b
      have ev := Nat.div_add_mod v b
      rw [h] at eu
      omega
theorem digB_lt {b : Nat} (h2 : 2 ≤ b) (h36 : b ≤ 36) (u : Nat) : ∀ v, u < v ↔ (digB b u).length < (digB b v).length ∨ ((digB b u).length = (digB b v).length ∧ Op.bytesLess (digB b u) (digB b v) = true) := by
  induction u using Nat.strongRecOn with
  | _ u ih =>
    intro v
    by_cases hu : u < b
    · by_cases hv : v < b
      · rw [digB_small hu, digB_small hv]
        simp [Op.bytesLess, dgc_lt (show u < 36 by omega) (show v < 36 by omega)]
      · rw [digB_small hu, digB_big h2 (by omega)]
        have := digB_pos b (v / b)
        simp only [List.length_append, List.length_cons, List.length_nil]
        constructor
        · intro _; exact .inl (by omega)
        · intro _; omega
    · by_cases hv : v < b
      · rw [digB_small hv, digB_big h2 (by omega)]
        have := digB_pos b (u / b)
        simp only [List.length_append, List.length_cons, List.length_nil]
        constructor
        · intro h; omega
        · rintro (h | ⟨h, _⟩) <;> omega
      · rw [digB_big h2 (by omega), digB_big (u := v) h2 (by omega)]
        have ih' := ih (u / b) (Nat.div_lt_self (by omega) (by omega)) (v / b)
        rw [div_mod_lt, ih']
        simp only [List.length_append, List.length_cons, List.length_nil]
        have hd := dgc_lt (Nat.lt_of_lt_of_le (Nat.mod_lt u (show b > 0 by omega)) h36) (Nat.lt_of_lt_of_le (Nat.mod_lt v (show b > 0 by omega)) h36)
        constructor
        · rintro ((h | ⟨h, h'⟩) | ⟨h, h'⟩)
          · exact .inl (by omega)
          · exact .inr ⟨by omega, (bytesLess_snoc _ _ _ _ h).2 (.inl h')⟩
          · exact .inr ⟨by rw [h], (bytesLess_snoc _ _ _ _ (by rw [h])).2 (.inr ⟨by rw [h], hd.2 h'⟩)⟩
        · rintro (h | ⟨h, h'⟩)
          · exact .inl (.inl (by omega))
          · rcases (bytesLess_snoc _ _ _ _ (by omega)).1 h' with h3 | ⟨h3, h4⟩
            · exact .inl (.inr ⟨by omega, h3⟩)
            · exact .inr ⟨digB_inj h2 h36 _ _ h3, hd.1 h4⟩
end Go.Proofs.YthbnglkpkgpojaaDoor
