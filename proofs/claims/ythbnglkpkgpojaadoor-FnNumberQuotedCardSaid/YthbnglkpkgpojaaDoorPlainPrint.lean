/-
  Plain facts on the tables of strconv.IsPrint and IsGraphic: what a binary search over a sorted table finds; the classes of spec.ClassOf against the tables. No program in sight.
-/
import Derived.Lib.Quote
import Derived.Lib.PrintData
import GoSem.PinnedTables
import Derived.KernelRfl
namespace Go.Proofs.YthbnglkpkgpojaaDoor
open Go.Lib

def sortedL : List Nat → Bool
  | a :: b :: r => decide (a ≤ b) && sortedL (b :: r)
  | _ => true
theorem sortedL_get : ∀ (t : List Nat), sortedL t = true → ∀ i j, i ≤ j → j < t.length → t.getD i 0 ≤ t.getD j 0
  | [], _, i, j, _, hj => by simp at hj
  | [a], _, i, j, hij, hj => by
    have : j = 0 := by simp at hj; omega
    have : i = 0 := by omega
    subst_vars; simp
  | a :: b :: r, h, i, j, hij, hj => by
    simp only [sortedL, Bool.and_eq_true, decide_eq_true_eq] at h
    have ih := sortedL_get (b :: r) h.2
    match i, j with
    | 0, 0 => simp
    | 0, j + 1 =>
      have := ih 0 j (by omega) (by simpa using hj)
      simp only [List.getD_cons_zero, List.getD_cons_succ] at this ⊢; omega
    | i + 1, 0 => omega
    | i + 1, j + 1 =>
      have := ih i j (by omega) (by simpa using hj)
      simpa only [List.getD_cons_succ] using this

theorem bsearchFrom_spec (t : List Nat) (v : Nat) (hs : sortedL t = true) : ∀ (fuel i j : Nat), i ≤ j → j ≤ t.length → j - i ≤ fuel →
    (∀ k, k < i → t.getD k 0 < v) → (∀ k, j ≤ k → k < t.length → v ≤ t.getD k 0) →
    (∀ k, k < bsearchFrom t v fuel i j → t.getD k 0 < v) ∧ (∀ k, bsearchFrom t v fuel i j ≤ k → k < t.length → v ≤ t.getD k 0)
  | 0, i, j, hij, hj, hf, h1, h2 => by
    have : i = j := by omega
    subst this
    exact ⟨h1, h2⟩
  | fuel + 1, i, j, hij, hj, hf, h1, h2 => by
    rw [bsearchFrom]
    split
    · split
      · rename_i hlt hm
        refine bsearchFrom_spec t v hs fuel _ j (by omega) hj (by omega) (fun k hk => ?_) h2
        have := sortedL_get t hs k (i + (j - i) / 2) (by omega) (by omega)
        omega
      · rename_i hlt hm
        refine bsearchFrom_spec t v hs fuel i _ (by omega) (by omega) (by omega) h1 (fun k hk hkl => ?_)
        have := sortedL_get t hs (i + (j - i) / 2) k (by omega) hkl
        omega
    · have : i = j := by omega
      subst this
      exact ⟨h1, h2⟩
theorem bsearchI_spec (t : List Nat) (v : Nat) (hs : sortedL t = true) :
    (∀ k, k < bsearchI t v → t.getD k 0 < v) ∧ (∀ k, bsearchI t v ≤ k → k < t.length → v ≤ t.getD k 0) :=
  bsearchFrom_spec t v hs _ _ _ (Nat.zero_le _) (Nat.le_refl _) (by omega) (fun k hk => by omega) (fun k h1 h2 => by omega)
theorem found_of_mem (t : List Nat) (v : Nat) (hs : sortedL t = true) (hm : v ∈ t) : bsearchFound t v = true := by
  obtain ⟨h1, h2⟩ := bsearchI_spec t v hs
  obtain ⟨k, hk, e⟩ := List.getElem_of_mem hm
  have ek : t.getD k 0 = v := by simp [List.getD, List.getElem?_eq_getElem hk, e]
  have a : bsearchI t v ≤ k := by
    rcases Nat.lt_or_ge k (bsearchI t v) with h | h
    · have := h1 k h; omega
    · exact h
  have b := h2 (bsearchI t v) (Nat.le_refl _) (by omega)
  have c := sortedL_get t hs (bsearchI t v) k a hk
  simp only [bsearchFound, Bool.and_eq_true, decide_eq_true_eq]
  omega
theorem mem_of_found (t : List Nat) (v : Nat) (h : bsearchFound t v = true) : v ∈ t := by
  simp only [bsearchFound, Bool.and_eq_true, decide_eq_true_eq] at h
  obtain ⟨h1, h2⟩ := h
  rw [List.getD, List.getElem?_eq_getElem h1] at h2
  simp at h2
  exact h2 ▸ List.getElem_mem h1

/-- some pair of the table covers a to b -/
def coversL : List Nat → Nat → Nat → Bool
  | lo :: hi :: r, a, b => (decide (lo ≤ a) && decide (b ≤ hi)) || coversL r a b
  | _, _, _ => false
/-- every pair of the table lies apart from a to b -/
def missesL : List Nat → Nat → Nat → Bool
  | lo :: hi :: r, a, b => (decide (hi < a) || decide (b < lo)) && missesL r a b
  | _, _, _ => true
theorem coversL_get : ∀ (t : List Nat) (a b : Nat), coversL t a b = true → ∃ p, 2 * p + 1 < t.length ∧ t.getD (2 * p) 0 ≤ a ∧ b ≤ t.getD (2 * p + 1) 0
  | [], _, _, h => by simp [coversL] at h
  | [_], _, _, h => by simp [coversL] at h
  | lo :: hi :: r, a, b, h => by
    simp only [coversL, Bool.or_eq_true, Bool.and_eq_true, decide_eq_true_eq] at h
    rcases h with h | h
    · exact ⟨0, by simp, by simpa using h.1, by simpa using h.2⟩
    · obtain ⟨p, h1, h2, h3⟩ := coversL_get r a b h
      refine ⟨p + 1, by simp; omega, ?_, ?_⟩
      · rw [show 2 * (p + 1) = (2 * p + 1) + 1 by omega, List.getD_cons_succ, List.getD_cons_succ]; exact h2
      · rw [show 2 * (p + 1) + 1 = ((2 * p + 1) + 1) + 1 by omega, List.getD_cons_succ, List.getD_cons_succ]; exact h3
theorem missesL_get : ∀ (t : List Nat) (a b : Nat), missesL t a b = true → ∀ p, 2 * p + 1 < t.length → t.getD (2 * p + 1) 0 < a ∨ b < t.getD (2 * p) 0
  | [], _, _, _, p, hp => by simp at hp
  | [_], _, _, _, p, hp => by simp at hp
  | lo :: hi :: r, a, b, h, p, hp => by
    simp only [missesL, Bool.or_eq_true, Bool.and_eq_true, decide_eq_true_eq] at h
    match p with
    | 0 => simpa using h.1
    | p + 1 =>
      have := missesL_get r a b h.2 p (by simp at hp; omega)
      rw [show 2 * (p + 1) + 1 = ((2 * p + 1) + 1) + 1 by omega, show 2 * (p + 1) = (2 * p + 1) + 1 by omega, List.getD_cons_succ, List.getD_cons_succ, List.getD_cons_succ, List.getD_cons_succ]
      exact this
theorem in_ranges (t : List Nat) (a b x : Nat) (hs : sortedL t = true) (h : coversL t a b = true) (ha : a ≤ x) (hb : x ≤ b) : outOfRanges t x = false := by
  obtain ⟨p, hp, h1, h2⟩ := coversL_get t a b h
  obtain ⟨s1, s2⟩ := bsearchI_spec t x hs
  obtain ⟨i, hi⟩ : ∃ i, i = bsearchI t x := ⟨_, rfl⟩
  rw [← hi] at s1 s2
  have hle : i ≤ 2 * p + 1 := by
    rcases Nat.lt_or_ge (2 * p + 1) i with h | h
    · have := s1 _ h; omega
    · exact h
  have a1 : t.getD (i / 2 * 2) 0 ≤ x := by
    rcases Nat.lt_or_ge (i / 2 * 2) i with h | h
    · have := s1 _ h; omega
    · have := sortedL_get t hs (i / 2 * 2) (2 * p) (by omega) (by omega)
      omega
  have a2 : x ≤ t.getD (i / 2 * 2 + 1) 0 := by
    rcases Nat.lt_or_ge (i / 2 * 2 + 1) t.length with h | h
    · exact s2 _ (by omega) h
    · have : i / 2 * 2 + 1 ≤ 2 * p + 1 := by omega
      omega
  simp only [outOfRanges, ← hi, Bool.or_eq_false_iff, decide_eq_false_iff_not]
  omega
theorem out_of_ranges (t : List Nat) (a b x : Nat) (he : t.length % 2 = 0) (h : missesL t a b = true) (ha : a ≤ x) (hb : x ≤ b) : outOfRanges t x = true := by
  cases e : outOfRanges t x with
  | true => rfl
  | false =>
    simp only [outOfRanges, Bool.or_eq_false_iff, decide_eq_false_iff_not] at e
    have := missesL_get t a b h (bsearchI t x / 2) (by omega)
    rw [Nat.mul_comm] at this
    omega
def apartL : List Nat → Nat → Nat → Bool
  | y :: r, a, b => (decide (y < a) || decide (b < y)) && apartL r a b
  | [], _, _ => true
theorem apartL_mem : ∀ (t : List Nat) (a b : Nat), apartL t a b = true → ∀ y ∈ t, y < a ∨ b < y
  | [], _, _, _, y, hy => by simp at hy
  | z :: r, a, b, h, y, hy => by
    simp only [apartL, Bool.and_eq_true, Bool.or_eq_true, decide_eq_true_eq] at h
    rcases List.mem_cons.1 hy with rfl | hy
    · exact h.1
    · exact apartL_mem r a b h.2 y hy
theorem not_found (t : List Nat) (a b x : Nat) (h : apartL t a b = true) (ha : a ≤ x) (hb : x ≤ b) : bsearchFound t x = false := by
  cases e : bsearchFound t x with
  | false => rfl
  | true => have := apartL_mem t a b h x (mem_of_found t x e); omega

set_option maxRecDepth 100000 in
theorem sorted16 : sortedL goPrintTabs.p16 = true := by kernel_rfl
set_option maxRecDepth 100000 in
theorem sorted32 : sortedL goPrintTabs.p32 = true := by kernel_rfl
set_option maxRecDepth 100000 in
theorem sortedN16 : sortedL goPrintTabs.n16 = true := by kernel_rfl
set_option maxRecDepth 100000 in
theorem sortedN32 : sortedL goPrintTabs.n32 = true := by kernel_rfl
theorem sortedG : sortedL Pinned.isGraphicZ = true := by kernel_rfl

/-- a to b is printed, by one look at the tables -/
def yes16 (a b : Nat) : Bool := coversL goPrintTabs.p16 a b && apartL goPrintTabs.n16 a b
theorem print_yes16 (a b : Nat) (h : yes16 a b = true) (r : Int) (h0 : 255 < r) (h1 : r < 65536) (ha : (a : Int) ≤ r) (hb : r ≤ b) : isPrintR goPrintTabs r = true := by
  simp only [yes16, Bool.and_eq_true] at h
  have e1 := in_ranges _ a b r.toNat sorted16 h.1 (by omega) (by omega)
  have e2 := not_found _ a b r.toNat h.2 (by omega) (by omega)
  simp only [isPrintR, if_neg (show ¬ r ≤ 255 by omega), if_pos h1, e1, e2]
  rfl
theorem print_no16 (a b : Nat) (h : missesL goPrintTabs.p16 a b = true) (r : Int) (h0 : 255 < r) (h1 : r < 65536) (ha : (a : Int) ≤ r) (hb : r ≤ b) : isPrintR goPrintTabs r = false := by
  have e1 := out_of_ranges _ a b r.toNat (by kernel_rfl) h (by omega) (by omega)
  simp only [isPrintR, if_neg (show ¬ r ≤ 255 by omega), if_pos h1, e1, if_true]
theorem print_no32 (a b : Nat) (h : missesL goPrintTabs.p32 a b = true) (r : Int) (h1 : 65536 ≤ r) (ha : (a : Int) ≤ r) (hb : r ≤ b) : isPrintR goPrintTabs r = false := by
  have e1 := out_of_ranges _ a b r.toNat (by kernel_rfl) h (by omega) (by omega)
  simp only [isPrintR, if_neg (show ¬ r ≤ 255 by omega), if_neg (show ¬ r < 65536 by omega), e1, if_true]
theorem print_yes32 (a b : Nat) (h : (coversL goPrintTabs.p32 a b && apartL goPrintTabs.n32 (a - 65536) (b - 65536)) = true) (r : Int) (h1 : 65536 ≤ r) (ha : (a : Int) ≤ r) (hb : r ≤ b) : isPrintR goPrintTabs r = true := by
  simp only [Bool.and_eq_true] at h
  have e1 := in_ranges _ a b r.toNat sorted32 h.1 (by omega) (by omega)
  have e2 := not_found _ (a - 65536) (b - 65536) (r.toNat - 65536) h.2 (by omega) (by omega)
  simp only [isPrintR, if_neg (show ¬ r ≤ 255 by omega), if_neg (show ¬ r < 65536 by omega), e1, e2]
  simp
theorem print_latin (r : Int) (h : r ≤ 255) : isPrintR goPrintTabs r = isPrintLatin r := by simp only [isPrintR, if_pos h]
/-- beyond the last code point nothing is printed -/
theorem print_big (r : Int) (h : 1114111 < r) (hr : r ≤ 2147483647) : isPrintR goPrintTabs r = false :=
  print_no32 1114112 2147483647 (by kernel_rfl) r (by omega) (by omega) (by omega)
theorem print_surrogate (r : Int) (h : 55296 ≤ r) (hr : r ≤ 57343) : isPrintR goPrintTabs r = false :=
  print_no16 55296 57343 (by kernel_rfl) r (by omega) (by omega) (by omega) (by omega)
theorem print_neg (r : Int) (h : r < 0) : isPrintR goPrintTabs r = false := by
  rw [print_latin r (by omega)]
  simp [isPrintLatin]; omega
end Go.Proofs.YthbnglkpkgpojaaDoor
