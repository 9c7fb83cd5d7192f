/-
  Plain: the digits of a number in a base. No program in sight.
-/
import Derived.Lib.ItoaNum
import Derived.Test.YthbnglkpkgpojaaDoorRowWords
namespace Go.Proofs.YthbnglkpkgpojaaDoor
open Go.RowKit

/-- the digit of a value below 36 -/
def dgc (d : Nat) : UInt8 := if d < 10 then UInt8.ofNat (48 + d) else UInt8.ofNat (87 + d)
/-- the digits of u in the base b, the last one first -/
def revB (b u : Nat) : List UInt8 := if _h : u < b ∨ b < 2 then [dgc u] else dgc (u % b) :: revB b (u / b)
termination_by u
decreasing_by exact Nat.div_lt_self (by omega) (by omega)
/-- the digits of u in the base b -/
def digB (b u : Nat) : List UInt8 := (revB b u).reverse
/-- what is still to come behind some digits -/
def tailB (b u : Nat) : List UInt8 := if u = 0 then [] else revB b u

theorem revB_small {b u : Nat} (h : u < b) : revB b u = [dgc u] := by rw [revB, dif_pos (.inl h)]
theorem revB_big {b u : Nat} (h2 : 2 ≤ b) (h : b ≤ u) : revB b u = dgc (u % b) :: revB b (u / b) := by rw [revB, dif_neg (by omega)]
theorem revB_step {b u : Nat} (h2 : 2 ≤ b) : revB b u = dgc (u % b) :: tailB b (u / b) := by
  by_cases h : u < b
  · rw [revB_small h, Nat.mod_eq_of_lt h, Nat.div_eq_of_lt h]; rfl
  · rw [revB_big h2 (by omega), tailB, if_neg (Nat.pos_iff_ne_zero.1 (Nat.div_pos (by omega) (by omega)))]
theorem tailB_step {b u : Nat} (h2 : 2 ≤ b) (h : u ≠ 0) : tailB b u = dgc (u % b) :: tailB b (u / b) := by
  rw [tailB, if_neg h, revB_step h2]
theorem tailB_zero (b : Nat) : tailB b 0 = [] := rfl
theorem revB_length_le {b : Nat} (h2 : 2 ≤ b) : ∀ (k u : Nat), u < 2 ^ (k + 1) → (revB b u).length ≤ k + 1
  | 0, u, h => by
    rw [revB_small (by simp at h; omega)]; simp
  | k + 1, u, h => by
    by_cases hu : u < b
    · rw [revB_small hu]; simp
    · rw [revB_big h2 (by omega), List.length_cons]
      have hd : u / b < 2 ^ (k + 1) := by
        have h3 : u / b ≤ u / 2 := Nat.div_le_div_left h2 (by omega)
        rw [Nat.pow_succ] at h
        omega
      have := revB_length_le h2 k (u / b) hd
      omega
theorem revB_length_64 {b u : Nat} (h2 : 2 ≤ b) (h : u < 18446744073709551616) : (revB b u).length ≤ 64 := revB_length_le h2 63 u (by simpa using h)
theorem revB_ne {b u : Nat} : revB b u ≠ [] := by
  rw [revB]; split <;> simp
theorem digB_ne {b u : Nat} : digB b u ≠ [] := by simp [digB, revB_ne]
theorem digB_length_64 {b u : Nat} (h2 : 2 ≤ b) (h : u < 18446744073709551616) : (digB b u).length ≤ 64 := by
  rw [digB, List.length_reverse]; exact revB_length_64 h2 h
theorem digB_10 (u : Nat) : digB 10 u = Lib.decDigits u := by
  induction u using Nat.strongRecOn with
  | _ u ih =>
    by_cases h : u < 10
    · rw [digB, revB_small h, Lib.decDigits_one h]; simp [dgc, h]
    · rw [digB, revB_big (by decide) (by omega), List.reverse_cons]
      have := ih (u / 10) (by omega)
      rw [digB] at this
      rw [this]
      conv => rhs; rw [Lib.decDigits, dif_neg h]
      have : u % 10 < 10 := Nat.mod_lt _ (by decide)
      simp [dgc, this]
theorem dgc_toNat {d : Nat} (h : d < 36) : (dgc d).toNat = if d < 10 then 48 + d else 87 + d := by
  unfold dgc
  split <;> simp [UInt8.toNat_ofNat'] <;> omega
theorem digits36_at_fin : ∀ d : Fin 36, Lib.digits36.data.toList[d.val]? = some (dgc d.val) := by decide +kernel

/-- the digits of a number with a sign -/
def fmtI (b : Nat) (i : Int) : List UInt8 := if i < 0 then 45 :: digB b i.natAbs else digB b i.toNat
theorem fmtI_10 (i : Int) : fmtI 10 i = Lib.itoa i := by
  unfold fmtI Lib.itoa
  split <;> rw [digB_10]
theorem fmtI_length {b : Nat} {i : Int} (h2 : 2 ≤ b) (h0 : -9223372036854775808 ≤ i) (h1 : i ≤ 9223372036854775807) : (fmtI b i).length ≤ 65 := by
  unfold fmtI
  split
  · have := digB_length_64 (b := b) (u := i.natAbs) h2 (by omega)
    simp; omega
  · have := digB_length_64 (b := b) (u := i.toNat) h2 (by omega)
    omega
/-- A list with as many of its first and last elements exchanged. -/
def Swapped (l m : List UInt8) (i : Nat) : Prop := m.length = l.length ∧ ∀ j, j < l.length → m[j]? = if j < i ∨ l.length - i ≤ j then l[l.length - 1 - j]? else l[j]?
theorem swapped_start (l : List UInt8) : Swapped l l 0 := ⟨rfl, fun j hj => by rw [if_neg (by omega)]⟩
theorem swapped_end {l m : List UInt8} {i : Nat} (h : Swapped l m i) (hi : l.length / 2 ≤ i) : m = l.reverse := by
  apply List.ext_getElem?
  intro j
  by_cases hj : j < l.length
  · rw [h.2 j hj, List.getElem?_reverse hj]
    split
    · rfl
    · rename_i hc
      have : j = l.length - 1 - j := by omega
      rw [← this]
  · rw [List.getElem?_eq_none (by rw [h.1]; omega), List.getElem?_eq_none (by simpa using hj)]
theorem swapped_next {l m : List UInt8} {i : Nat} (h : Swapped l m i) (hi : i < l.length / 2) {a b : UInt8} (ha : m[i]? = some a) (hb : m[l.length - 1 - i]? = some b) :
    Swapped l ((m.set i b).set (l.length - 1 - i) a) (i + 1) := by
  refine ⟨by simp [h.1], fun j hj => ?_⟩
  have hl := h.1
  have ea := h.2 i (by omega)
  have eb := h.2 (l.length - 1 - i) (by omega)
  rw [ha, if_neg (by omega)] at ea
  rw [hb, if_neg (by omega)] at eb
  rw [List.getElem?_set, List.getElem?_set]
  by_cases c1 : l.length - 1 - i = j
  · rw [if_pos c1, if_pos (by simp; omega), if_pos (by omega), ← c1, show l.length - 1 - (l.length - 1 - i) = i by omega, ← ea]
  · rw [if_neg c1]
    by_cases c2 : i = j
    · rw [if_pos c2, if_pos (by omega), if_pos (by omega), ← c2, ← eb]
    · rw [if_neg c2, h.2 j hj]
      by_cases c3 : j < i ∨ l.length - i ≤ j
      · rw [if_pos c3, if_pos (by omega)]
      · rw [if_neg c3, if_neg (by omega)]

/-! Writing into a row of the call's own. -/
theorem Own.set {T B g n c xs W0 w} (h : Own T B (.slice (some ⟨g, 0, none⟩) n c) xs W0 w) (k : Nat) (u : Value) : Own T B (.slice (some ⟨g, 0, none⟩) n c) (xs.set k u) W0 (w.setCell ⟨g, k, none⟩ u) := by
  obtain ⟨⟨h1, h2⟩, h3, h4⟩ := h
  rcases h2 with ⟨h2, _⟩ | ⟨g', cap, cur, hv, hg, hh, hn, hm, hs, ht⟩
  · cases h2
  · injection hv with e1 e2 e3
    injection e1 with e1
    injection e1 with e1
    subst e1 e2 e3
    refine ⟨⟨by simp, .inr ⟨g, c, cur.setIfInBounds k u, by simp, hg, ?_, by simpa using hn, hm, by simpa using hs, ?_⟩⟩, h3.setCell hg u, by simpa [World.setCell] using h4⟩
    · simp only [World.setCell, Array.getElem?_modify, if_pos, hh, Option.map_some]
      simp
    · rw [Array.toList_setIfInBounds, List.length_set, List.take_set, ht]
theorem Own.at_ {T B g n c xs W0 w} (h : Own T B (.slice (some ⟨g, 0, none⟩) n c) xs W0 w) {k : Nat} {u : Value} (hk : xs[k]? = some u) : w.cell? ⟨g, k, none⟩ = some u ∧ w.frozen? ⟨g, k, none⟩ = false := by
  obtain ⟨⟨h1, h2⟩, h3, h4⟩ := h
  rcases h2 with ⟨h2, _⟩ | ⟨g', cap, cur, hv, hg, hh, hn, hm, hs, ht⟩
  · cases h2
  · injection hv with e1 e2 e3
    injection e1 with e1
    injection e1 with e1
    subst e1 e2 e3
    constructor
    · simp only [World.cell?, hh]
      have : cur.toList[k]? = some u := by
        have hlt : k < xs.length := (List.getElem?_eq_some_iff.1 hk).1
        rw [← hk, ← ht, List.getElem?_take_of_lt (by omega)]
      simpa using this
    · simp [World.frozen?, hh]
end Go.Proofs.YthbnglkpkgpojaaDoor
