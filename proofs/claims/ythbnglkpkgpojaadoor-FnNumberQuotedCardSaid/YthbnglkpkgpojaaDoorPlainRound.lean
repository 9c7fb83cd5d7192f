/-
  Plain: a number is read back from its digits. No program in sight.
-/
import Derived.Test.YthbnglkpkgpojaaDoorPlainParse
import Derived.Test.YthbnglkpkgpojaaDoorPlainOrder
namespace Go.Proofs.YthbnglkpkgpojaaDoor
open Go.RowKit
/-- the value of digits behind n -/
def foldV (b : Nat) : List UInt8 → Nat → Nat
  | [], n => n
  | c :: r, n => foldV b r (n * b + digN c)
theorem foldV_append (b : Nat) : ∀ (l m : List UInt8) (n : Nat), foldV b (l ++ m) n = foldV b m (foldV b l n)
  | [], m, n => rfl
  | c :: r, m, n => by rw [List.cons_append, foldV, foldV, foldV_append b r m]
theorem foldV_mono {b : Nat} (hb : 1 ≤ b) : ∀ (l : List UInt8) (n : Nat), n ≤ foldV b l n
  | [], n => Nat.le_refl _
  | c :: r, n => by
    rw [foldV]
    have h1 : n * 1 ≤ n * b := Nat.mul_le_mul_left n hb
    exact Nat.le_trans (by omega) (foldV_mono hb r (n * b + digN c))
theorem foldV_digB {b : Nat} (h2 : 2 ≤ b) (h36 : b ≤ 36) (u : Nat) : foldV b (digB b u) 0 = u := by
  induction u using Nat.strongRecOn with
  | _ u ih =>
    by_cases hu : u < b
    · rw [digB_small hu, foldV, foldV, digN_dgc (by omega)]; omega
    · rw [digB_big h2 (by omega), foldV_append, ih (u / b) (Nat.div_lt_self (by omega) (by omega)), foldV, foldV, digN_dgc (Nat.lt_of_lt_of_le (Nat.mod_lt _ (by omega)) h36), Nat.mul_comm, Nat.div_add_mod]
theorem digN_95 : digN 95 = 99 := by decide
/-- digits alone are a number, if it fits -/
theorem scan_digits {b mx : Nat} {b0 : Bool} (h1 : 1 ≤ b) (h36 : b ≤ 36) : ∀ (l : List UInt8) (n : Nat) (u : Bool), (∀ c ∈ l, digN c < b) → n ≤ mx → scan b mx b0 l n u = if foldV b l n ≤ mx then .ok (foldV b l n) u else .rng
  | [], n, u, _, hn => by rw [scan, foldV, if_pos hn]
  | c :: r, n, u, hd, hn => by
    have hc : digN c < b := hd c (List.mem_cons_self ..)
    have hne : ¬ (c = 95 ∧ b0 = true) := by rintro ⟨rfl, _⟩; rw [digN_95] at hc; omega
    rw [scan, if_neg hne, if_neg (by omega), foldV]
    by_cases hm : mx < n * b + digN c
    · rw [if_pos hm, if_neg (by have := foldV_mono h1 r (n * b + digN c); omega)]
    · rw [if_neg hm, scan_digits h1 h36 r _ u (fun x hx => hd x (List.mem_cons_of_mem _ hx)) (by omega)]
theorem digB_lt_b {b : Nat} (h2 : 2 ≤ b) (h36 : b ≤ 36) (u : Nat) : ∀ c ∈ digB b u, digN c < b := fun c hc => by
  obtain ⟨d, hd, rfl⟩ := digB_digits h2 u c hc
  rw [digN_dgc (by omega)]; exact hd
theorem pre_pos {base : Nat} (h : base ≠ 0) (l : List UInt8) : pre l base = (base, l) := by rw [pre, if_pos h]
/-- what is read of digits in a base from 2 to 36 -/
theorem pUb_digits {b bits : Nat} (h2 : 2 ≤ b) (h36 : b ≤ 36) (l : List UInt8) (hd : ∀ c ∈ l, digN c < b) : pUb l b bits = if foldV b l 0 ≤ 2 ^ (if bits = 0 then 64 else bits) - 1 then (foldV b l 0, 0) else (2 ^ (if bits = 0 then 64 else bits) - 1, 1) := by
  rw [pUb, pre_pos (by omega), scan_digits (by omega) h36 l 0 false hd (Nat.zero_le _)]
  generalize 2 ^ (if bits = 0 then 64 else bits) - 1 = mx
  by_cases h : foldV b l 0 ≤ mx
  · rw [if_pos h, if_pos h, resOf, if_neg (by simp)]
  · rw [if_neg h, if_neg h]; rfl
theorem pUe_digB {b bits : Nat} (h2 : 2 ≤ b) (h36 : b ≤ 36) (u : Nat) : pUe (digB b u) b bits = if u ≤ 2 ^ (if bits = 0 then 64 else bits) - 1 then (u, 0) else (2 ^ (if bits = 0 then 64 else bits) - 1, 1) := by
  rw [pUe, if_neg digB_ne, pUb_digits h2 h36 _ (digB_lt_b h2 h36 u), foldV_digB h2 h36]
end Go.Proofs.YthbnglkpkgpojaaDoor
