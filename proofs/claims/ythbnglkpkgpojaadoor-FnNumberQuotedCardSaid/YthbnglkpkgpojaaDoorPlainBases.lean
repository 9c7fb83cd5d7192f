/-
  Plain: binary digits in groups are the digits in a base that is a power of two. No program in sight.
-/
import Derived.Test.YthbnglkpkgpojaaDoorPlainOrder
namespace Go.Proofs.YthbnglkpkgpojaaDoor
open Go.RowKit
/-- the last s binary digits -/
def padB : Nat → Nat → List UInt8
  | 0, _ => []
  | s + 1, d => padB s (d / 2) ++ [dgc (d % 2)]
theorem padB_length : ∀ s d, (padB s d).length = s
  | 0, _ => rfl
  | s + 1, d => by rw [padB, List.length_append, padB_length s]; rfl
theorem padB_zero : ∀ s, padB s 0 = List.replicate s 48
  | 0 => rfl
  | s + 1 => by rw [padB, Nat.zero_div, padB_zero s, List.replicate_succ']; rfl
theorem padB_mod : ∀ s u, padB s (u % 2 ^ s) = padB s u
  | 0, _ => rfl
  | s + 1, u => by
    have h1 : u % 2 ^ (s + 1) / 2 = u / 2 % 2 ^ s := by rw [Nat.pow_succ, Nat.mul_comm, Nat.mod_mul_right_div_self]
    have h2 : u % 2 ^ (s + 1) % 2 = u % 2 := Nat.mod_mod_of_dvd u (by rw [Nat.pow_succ]; exact Nat.dvd_mul_left 2 _)
    rw [padB, padB, h1, h2, padB_mod s]
theorem digB_two_split : ∀ s u, 2 ^ s ≤ u → digB 2 u = digB 2 (u / 2 ^ s) ++ padB s u
  | 0, u, _ => by simp [padB]
  | s + 1, u, h => by
    have h2 : 2 ^ s ≤ u / 2 := by rw [Nat.pow_succ] at h; omega
    have hu : 2 ≤ u := Nat.le_trans (Nat.le_self_pow (by omega) 2) h
    rw [digB_big (by decide) hu, digB_two_split s _ h2, padB, Nat.div_div_eq_div_mul, Nat.mul_comm 2, ← Nat.pow_succ, List.append_assoc]
theorem padB_eq : ∀ s d, 1 ≤ s → d < 2 ^ s → List.replicate (s - (digB 2 d).length) 48 ++ digB 2 d = padB s d
  | 0, _, h, _ => by omega
  | s + 1, d, _, hd => by
    by_cases h2 : d < 2
    · rw [digB_small h2, padB, Nat.div_eq_of_lt h2, padB_zero, Nat.mod_eq_of_lt h2]; rfl
    · have hs : 1 ≤ s := by
        rcases Nat.eq_zero_or_pos s with h | h
        · subst h; simp at hd; omega
        · exact h
      have ih := padB_eq s (d / 2) hs (by rw [Nat.pow_succ] at hd; omega)
      rw [digB_big (by decide) (by omega), List.length_append, padB, ← ih]
      simp [Nat.add_sub_add_right]
theorem digB_two_le {s d : Nat} (hs : 1 ≤ s) (hd : d < 2 ^ s) : (digB 2 d).length ≤ s := by
  have h := congrArg List.length (padB_eq s d hs hd)
  rw [padB_length, List.length_append, List.length_replicate] at h
  omega
/-- the value of a digit -/
def digN (c : UInt8) : Nat := if 48 ≤ c.toNat ∧ c.toNat ≤ 57 then c.toNat - 48 else if 97 ≤ c.toNat ∧ c.toNat ≤ 122 then c.toNat - 87 else if 65 ≤ c.toNat ∧ c.toNat ≤ 90 then c.toNat - 55 else 99
theorem digN_dgc {d : Nat} (h : d < 36) : digN (dgc d) = d := by
  unfold digN
  rw [dgc_toNat h]
  split <;> (repeat' split) <;> omega
/-- the digits in groups -/
theorem groups {s : Nat} (hs : 1 ≤ s) (h5 : s ≤ 5) (u : Nat) : ∃ p, p < s ∧ (digB (2 ^ s) u).flatMap (fun c => padB s (digN c)) = List.replicate p 48 ++ digB 2 u := by
  have hb : 2 ≤ 2 ^ s := Nat.le_self_pow (by omega) 2
  have hb2 : 2 ^ s ≤ 36 := Nat.le_trans (Nat.pow_le_pow_right (by decide) h5) (by decide)
  induction u using Nat.strongRecOn with
  | _ u ih =>
    by_cases hu : u < 2 ^ s
    · refine ⟨s - (digB 2 u).length, by have := digB_pos 2 u; omega, ?_⟩
      rw [digB_small hu, List.flatMap_cons, List.flatMap_nil, List.append_nil, digN_dgc (by omega), padB_eq s u hs hu]
    · obtain ⟨p, hp, h⟩ := ih (u / 2 ^ s) (Nat.div_lt_self (by omega) (by omega))
      refine ⟨p, hp, ?_⟩
      have hm : u % 2 ^ s < 2 ^ s := Nat.mod_lt _ (by omega)
      rw [digB_big hb (by omega), List.flatMap_append, h, List.flatMap_cons, List.flatMap_nil, List.append_nil, digN_dgc (by omega), padB_mod, digB_two_split s u (by omega), List.append_assoc]
theorem digB_digits {b : Nat} (h2 : 2 ≤ b) (u : Nat) : ∀ c ∈ digB b u, ∃ d, d < b ∧ c = dgc d := by
  induction u using Nat.strongRecOn with
  | _ u ih =>
    intro c hc
    by_cases hu : u < b
    · rw [digB_small hu] at hc
      exact ⟨u, hu, by simpa using hc⟩
    · rw [digB_big h2 (by omega), List.mem_append] at hc
      rcases hc with hc | hc
      · exact ih (u / b) (Nat.div_lt_self (by omega) (by omega)) c hc
      · exact ⟨u % b, Nat.mod_lt _ (by omega), by simpa using hc⟩
theorem flatMap_group {α : Type} (f : α → List UInt8) (s : Nat) (hf : ∀ x, (f x).length = s) : ∀ (l : List α), (l.flatMap f).length = l.length * s
  | [] => by simp
  | x :: l => by rw [List.flatMap_cons, List.length_append, hf, flatMap_group f s hf l, List.length_cons, Nat.succ_mul]; omega
theorem flatMap_at {α : Type} (f : α → List UInt8) (s : Nat) (hf : ∀ x, (f x).length = s) : ∀ (l : List α) (i : Nat) (h : i < l.length), ((l.flatMap f).drop (i * s)).take s = f l[i]
  | x :: l, 0, _ => by
    rw [List.flatMap_cons, Nat.zero_mul, List.drop_zero, List.getElem_cons_zero]
    rw [List.take_append_of_le_length (by rw [hf]; exact Nat.le_refl _), List.take_of_length_le (by rw [hf]; exact Nat.le_refl _)]
  | x :: l, i + 1, h => by
    rw [List.flatMap_cons, List.getElem_cons_succ, ← flatMap_at f s hf l i (by simpa using h)]
    rw [Nat.succ_mul, Nat.add_comm, ← List.drop_drop, List.drop_left' (hf x)]
end Go.Proofs.YthbnglkpkgpojaaDoor
