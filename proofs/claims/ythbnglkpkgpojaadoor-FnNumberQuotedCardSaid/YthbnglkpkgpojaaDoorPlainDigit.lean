/-
  Plain: a digit behind a number; capital letters; prefixes. No program in sight.
-/
import Derived.Test.YthbnglkpkgpojaaDoorPlainRound
namespace Go.Proofs.YthbnglkpkgpojaaDoor
open Go.RowKit
theorem digB_push {b u d : Nat} (h2 : 2 ≤ b) (hd : d < b) : digB b (u * b + d) = if u = 0 then [dgc d] else digB b u ++ [dgc d] := by
  by_cases hu : u = 0
  · subst hu; rw [if_pos rfl, Nat.zero_mul, Nat.zero_add, digB_small hd]
  · have h1 : 1 * b ≤ u * b := Nat.mul_le_mul_right b (by omega)
    rw [if_neg hu, digB_big h2 (by omega), Nat.add_comm, Nat.add_mul_mod_self_right, Nat.mod_eq_of_lt hd, Nat.add_mul_div_right _ _ (by omega), Nat.div_eq_of_lt hd, Nat.zero_add]
theorem pUe_push {b bits u d : Nat} (h2 : 2 ≤ b) (h36 : b ≤ 36) (hd : d < b) : pUe (digB b u ++ digB b d) b bits = if u * b + d ≤ 2 ^ (if bits = 0 then 64 else bits) - 1 then (u * b + d, 0) else (2 ^ (if bits = 0 then 64 else bits) - 1, 1) := by
  have hl : ∀ c ∈ digB b u ++ digB b d, digN c < b := fun c hc => by
    rcases List.mem_append.1 hc with h | h
    · exact digB_lt_b h2 h36 u c h
    · exact digB_lt_b h2 h36 d c h
  rw [pUe, if_neg (by simp [digB_ne]), pUb_digits h2 h36 _ hl, foldV_append, foldV_digB h2 h36, digB_small hd, foldV, foldV, digN_dgc (by omega)]
theorem up_fin : ∀ c : Fin 256, digN (if 97 ≤ c.val ∧ c.val ≤ 122 then UInt8.ofNat (c.val - 32) else UInt8.ofNat c.val) = digN (UInt8.ofNat c.val) := by decide +kernel
theorem foldV_map {b : Nat} (f : UInt8 → UInt8) (hf : ∀ c, digN (f c) = digN c) : ∀ (l : List UInt8) (n : Nat), foldV b (l.map f) n = foldV b l n
  | [], n => rfl
  | c :: r, n => by rw [List.map_cons, foldV, foldV, hf, foldV_map f hf r]
theorem pUe_map {b bits : Nat} (h2 : 2 ≤ b) (h36 : b ≤ 36) (f : UInt8 → UInt8) (hf : ∀ c, digN (f c) = digN c) (u : Nat) : pUe ((digB b u).map f) b bits = if u ≤ 2 ^ (if bits = 0 then 64 else bits) - 1 then (u, 0) else (2 ^ (if bits = 0 then 64 else bits) - 1, 1) := by
  rw [pUe, if_neg (by simp [digB_ne]), pUb_digits h2 h36 _ (fun c hc => by obtain ⟨x, hx, rfl⟩ := List.mem_map.1 hc; rw [hf]; exact digB_lt_b h2 h36 u x hx), foldV_map f hf, foldV_digB h2 h36]
/-- digits behind a prefix, in base 0 -/
theorem pUe_pre {bits : Nat} {l m : List UInt8} {b : Nat} (hpre : pre l 0 = (b, m)) (hne : l ≠ []) (h1 : 1 ≤ b) (h36 : b ≤ 36) (hd : ∀ c ∈ m, digN c < b) : pUe l 0 bits = if foldV b m 0 ≤ 2 ^ (if bits = 0 then 64 else bits) - 1 then (foldV b m 0, 0) else (2 ^ (if bits = 0 then 64 else bits) - 1, 1) := by
  rw [pUe, if_neg hne, pUb, hpre]
  simp only
  rw [scan_digits h1 h36 m 0 false hd (Nat.zero_le _)]
  generalize 2 ^ (if bits = 0 then 64 else bits) - 1 = mx
  by_cases h : foldV b m 0 ≤ mx
  · rw [if_pos h, if_pos h, resOf, if_neg (by simp)]
  · rw [if_neg h, if_neg h]; rfl
theorem pre_b {c : UInt8} (hc : lowN c = 98) {m : List UInt8} (hm : m ≠ []) : pre (48 :: c :: m) 0 = (2, m) := by
  have hl : 3 ≤ (48 :: c :: m).length := by have := List.length_pos_iff.2 hm; simp; omega
  rw [pre, if_neg (by simp), if_neg (by simp), if_pos ⟨hl, by simp [hc]⟩]; rfl
theorem pre_o {c : UInt8} (hc : lowN c = 111) {m : List UInt8} (hm : m ≠ []) : pre (48 :: c :: m) 0 = (8, m) := by
  have hl : 3 ≤ (48 :: c :: m).length := by have := List.length_pos_iff.2 hm; simp; omega
  rw [pre, if_neg (by simp), if_neg (by simp), if_neg (by simp [hc]), if_pos ⟨hl, by simp [hc]⟩]; rfl
theorem pre_x {c : UInt8} (hc : lowN c = 120) {m : List UInt8} (hm : m ≠ []) : pre (48 :: c :: m) 0 = (16, m) := by
  have hl : 3 ≤ (48 :: c :: m).length := by have := List.length_pos_iff.2 hm; simp; omega
  rw [pre, if_neg (by simp), if_neg (by simp), if_neg (by simp [hc]), if_neg (by simp [hc]), if_pos ⟨hl, by simp [hc]⟩]; rfl
end Go.Proofs.YthbnglkpkgpojaaDoor
