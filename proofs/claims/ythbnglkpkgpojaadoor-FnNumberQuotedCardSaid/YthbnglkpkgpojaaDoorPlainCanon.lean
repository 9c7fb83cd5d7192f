/-
  Plain: the digits of the number that digits say are these, without zeros before them. No program in sight.
-/
import Derived.Test.YthbnglkpkgpojaaDoorPlainAgree
namespace Go.Proofs.YthbnglkpkgpojaaDoor
open Go.RowKit
theorem dgc_digN_fin : ∀ c : Fin 256, digN (UInt8.ofNat c.val) < 36 → ¬ (65 ≤ c.val ∧ c.val ≤ 90) → dgc (digN (UInt8.ofNat c.val)) = UInt8.ofNat c.val := by decide +kernel
theorem dgc_digN {c : UInt8} (h : digN c < 36) (hc : capD c = false) : dgc (digN c) = c := by
  have := dgc_digN_fin ⟨c.toNat, c.toNat_lt⟩
  simp only [UInt8.ofNat_toNat] at this
  exact this h (by simp [capD] at hc; omega)
/-- the zeros before the digits taken away, but for the last digit -/
def stripZ : List UInt8 → List UInt8
  | [] => []
  | [c] => [c]
  | c :: d :: r => if c = 48 then stripZ (d :: r) else c :: d :: r
theorem digB_foldV {b : Nat} (h2 : 2 ≤ b) (h36 : b ≤ 36) : ∀ (l : List UInt8) (n : Nat), n ≠ 0 → (∀ c ∈ l, digN c < b ∧ capD c = false) → digB b (foldV b l n) = digB b n ++ l
  | [], n, _, _ => by rw [foldV, List.append_nil]
  | c :: r, n, hn, h => by
    obtain ⟨h1, h3⟩ := h c (List.mem_cons_self ..)
    have h4 : 1 * b ≤ n * b := Nat.mul_le_mul_right b (by omega)
    rw [foldV, digB_foldV h2 h36 r _ (by omega) (fun x hx => h x (List.mem_cons_of_mem _ hx)), digB_push h2 h1, if_neg hn, dgc_digN (by omega) h3, List.append_assoc]; rfl
theorem digN_48 : digN 48 = 0 := by decide
theorem digN_zero {c : UInt8} (h : digN c = 0) : c = 48 := by
  have h1 : capD c = false := by
    cases hc : capD c
    · rfl
    · simp [capD] at hc
      unfold digN at h
      rw [if_neg (by omega), if_neg (by omega), if_pos hc] at h
      omega
  have := dgc_digN (c := c) (by omega) h1
  rw [h] at this
  exact this.symm.trans (by decide)
theorem canon {b : Nat} (h2 : 2 ≤ b) (h36 : b ≤ 36) : ∀ (l : List UInt8), l ≠ [] → (∀ c ∈ l, digN c < b ∧ capD c = false) → digB b (foldV b l 0) = stripZ l
  | [], h, _ => absurd rfl h
  | [c], _, h => by
    obtain ⟨h1, h3⟩ := h c (List.mem_cons_self ..)
    rw [foldV, foldV, Nat.zero_mul, Nat.zero_add, digB_small h1, dgc_digN (by omega) h3]; rfl
  | c :: d :: r, _, h => by
    obtain ⟨h1, h3⟩ := h c (List.mem_cons_self ..)
    have ht : ∀ x ∈ d :: r, digN x < b ∧ capD x = false := fun x hx => h x (List.mem_cons_of_mem _ hx)
    rw [foldV, Nat.zero_mul, Nat.zero_add, stripZ]
    by_cases h0 : c = 48
    · rw [if_pos h0, h0, digN_48]
      exact canon h2 h36 (d :: r) (by simp) ht
    · rw [if_neg h0, digB_foldV h2 h36 (d :: r) _ (fun e => h0 (digN_zero e)) ht, digB_small h1, dgc_digN (by omega) h3]; rfl
theorem stripZ_drop : ∀ (l : List UInt8), 1 < l.length → l[0]? = some 48 → stripZ l = stripZ (l.drop 1)
  | [], h, _ => by simp at h
  | [c], h, _ => by simp at h
  | c :: d :: r, _, h => by
    have : c = 48 := by simpa using h
    rw [stripZ, if_pos this]; rfl
theorem stripZ_one : ∀ (l : List UInt8), ¬ 1 < l.length → stripZ l = l
  | [], _ => rfl
  | [c], _ => rfl
  | c :: d :: r, h => by simp at h
theorem stripZ_head : ∀ (l : List UInt8), l[0]? ≠ some 48 → stripZ l = l
  | [], _ => rfl
  | [c], _ => rfl
  | c :: d :: r, h => by
    have : ¬ c = 48 := by simpa using h
    rw [stripZ, if_neg this]
/-- what is read of a text in a base from 2 to 36, where it is a number and has no capital letters -/
theorem specRead_good {l : List UInt8} {b : Nat} (h2 : 2 ≤ b) (hg : (specRead l b).good = true) (ho : (specRead l b).op = false) : l ≠ [] ∧ (∀ c ∈ l, digN c < b ∧ capD c = false) ∧ (specRead l b).v = foldV b l 0 := by
  have hsp : specBase l b = ⟨b, l, false, false, false⟩ := by rw [specBase, if_pos (by omega)]
  have hg' : (!l.isEmpty && allD b l) = true := by rw [← hg]; simp [specRead, hsp, readDig]
  have ho' : (digP b l).any capD = false := by rw [← ho]; simp [specRead, hsp, readDig]
  have hv : (specRead l b).v = foldV b (digP b l) 0 := by simp [specRead, hsp, readDig]
  rw [Bool.and_eq_true] at hg'
  rw [digP_all hg'.2] at ho' hv
  refine ⟨by simpa using hg'.1, fun c hc => ⟨?_, ?_⟩, hv⟩
  · simpa [allD] using List.all_eq_true.1 hg'.2 c hc
  · have := List.any_eq_false.1 ho' c hc
    simpa using this
end Go.Proofs.YthbnglkpkgpojaaDoor
