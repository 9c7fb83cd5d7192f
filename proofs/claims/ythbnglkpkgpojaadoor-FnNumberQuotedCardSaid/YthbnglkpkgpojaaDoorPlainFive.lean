/-
  Plain: zeros before digits, prefixes, bytes that are no digits, signs, and what Atoi reads. No program in sight.
-/
import Derived.Test.YthbnglkpkgpojaaDoorPlainCanon
namespace Go.Proofs.YthbnglkpkgpojaaDoor
open Go.RowKit
set_option linter.unusedVariables false
set_option linter.unusedSimpArgs false
theorem mx64 : (2 : Nat) ^ (if (64 : Nat) = 0 then 64 else 64) - 1 = 18446744073709551615 := by decide
theorem foldV_zeros (b : Nat) : ∀ (k : Nat) (l : List UInt8), foldV b (List.replicate k 48 ++ l) 0 = foldV b l 0
  | 0, l => rfl
  | k + 1, l => by rw [List.replicate_succ, List.cons_append, foldV, digN_48, Nat.zero_mul]; exact foldV_zeros b k l
theorem zeros_digits {b : Nat} (h2 : 2 ≤ b) (h36 : b ≤ 36) (k u : Nat) : ∀ c ∈ List.replicate k 48 ++ digB b u, digN c < b := fun c hc => by
  rcases List.mem_append.1 hc with h | h
  · rw [(List.mem_replicate.1 h).2, digN_48]; omega
  · exact digB_lt_b h2 h36 u c h
theorem pUe_zeros {b bits : Nat} (h2 : 2 ≤ b) (h36 : b ≤ 36) (k u : Nat) : pUe (List.replicate k 48 ++ digB b u) b bits = if u ≤ 2 ^ (if bits = 0 then 64 else bits) - 1 then (u, 0) else (2 ^ (if bits = 0 then 64 else bits) - 1, 1) := by
  rw [pUe, if_neg (by simp [digB_ne]), pUb_digits h2 h36 _ (zeros_digits h2 h36 k u), foldV_zeros, foldV_digB h2 h36]
/-- digits, a plus and a minus before them, as numbers of 64 bits -/
theorem pIe_plus64 {b u : Nat} {l : List UInt8} (hu : pUe l b 64 = (u, 0)) (h : u ≤ 9223372036854775807) : pIe (43 :: l) b 64 = ((u : Int), 0) := by
  have := pIe_pos (b := b) (bits := 64) (u := u) (43 :: l) (by simp) (by decide) (by simp) (by rw [noSign_plus, hu, mx64, if_pos (by omega)])
  rw [this, if_pos]
  rw [show ((2 ^ ((if (64 : Nat) = 0 then 64 else 64) - 1) : Nat) : Int) = 9223372036854775808 by decide]; omega
theorem pIe_minus64 {b u : Nat} {l : List UInt8} (hu : pUe l b 64 = (u, 0)) (h : u ≤ 9223372036854775807) : pIe (45 :: l) b 64 = (-(u : Int), 0) := by
  have := pIe_neg (b := b) (bits := 64) (u := u) l (by decide) (by rw [hu, mx64, if_pos (by omega)])
  rw [this, if_pos]
  rw [show ((2 ^ ((if (64 : Nat) = 0 then 64 else 64) - 1) : Nat) : Int) = 9223372036854775808 by decide]; omega
/-- the five texts of a number with base 0 -/
theorem five (u : Nat) (hu : u < 18446744073709551616) : ∀ t ∈ [48 :: 98 :: digB 2 u, 48 :: 111 :: digB 8 u, 48 :: digB 8 u, 48 :: 120 :: digB 16 u, digB 10 u], pUe t 0 64 = (u, 0) ∧ t.length ≤ 70 ∧ 1 ≤ t.length := by
  intro t ht
  have hp : ∀ b, 1 ≤ (digB b u).length := fun b => List.length_pos_iff.2 digB_ne
  have l2 := digB_length_64 (b := 2) (u := u) (by omega) hu
  have l8 := digB_length_64 (b := 8) (u := u) (by omega) hu
  have l10 := digB_length_64 (b := 10) (u := u) (by omega) hu
  have l16 := digB_length_64 (b := 16) (u := u) (by omega) hu
  simp only [List.mem_cons, List.not_mem_nil, or_false] at ht
  rcases ht with rfl | rfl | rfl | rfl | rfl
  · refine ⟨?_, by simp; omega, by simp⟩
    rw [pUe_pre (pre_b (by decide) digB_ne) (by simp) (by omega) (by omega) (digB_lt_b (by omega) (by omega) u), foldV_digB (by omega) (by omega), mx64, if_pos (by omega)]
  · refine ⟨?_, by simp; omega, by simp⟩
    rw [pUe_pre (pre_o (by decide) digB_ne) (by simp) (by omega) (by omega) (digB_lt_b (by omega) (by omega) u), foldV_digB (by omega) (by omega), mx64, if_pos (by omega)]
  · refine ⟨?_, by simp; omega, by simp⟩
    have hpre : pre (48 :: digB 8 u) 0 = (8, digB 8 u) := by
      obtain ⟨c, r, hc⟩ : ∃ c r, digB 8 u = c :: r := by
        cases h : digB 8 u with
        | nil => exact absurd h digB_ne
        | cons c r => exact ⟨c, r, rfl⟩
      have hcd : digN c < 8 := digB_lt_b (by omega) (by omega) u c (by rw [hc]; exact List.mem_cons_self ..)
      have n1 : ¬ lowN c = 98 := fun h => by rw [lowN_98] at h; rcases h with rfl | rfl <;> exact absurd hcd (by decide)
      have n2 : ¬ lowN c = 111 := fun h => by rw [lowN_111] at h; rcases h with rfl | rfl <;> exact absurd hcd (by decide)
      have n3 : ¬ lowN c = 120 := fun h => by rw [lowN_120] at h; rcases h with rfl | rfl <;> exact absurd hcd (by decide)
      rw [hc, pre, if_neg (by simp), if_neg (by simp), if_neg (by simp [n1]), if_neg (by simp [n2]), if_neg (by simp [n3])]; rfl
    rw [pUe_pre hpre (by simp) (by omega) (by omega) (digB_lt_b (by omega) (by omega) u), foldV_digB (by omega) (by omega), mx64, if_pos (by omega)]
  · refine ⟨?_, by simp; omega, by simp⟩
    rw [pUe_pre (pre_x (by decide) digB_ne) (by simp) (by omega) (by omega) (digB_lt_b (by omega) (by omega) u), foldV_digB (by omega) (by omega), mx64, if_pos (by omega)]
  · refine ⟨?_, by omega, hp 10⟩
    by_cases h48 : (digB 10 u)[0]? = some 48
    · -- the number is 0
      have h1 := canon (b := 10) (by omega) (by omega) (digB 10 u) digB_ne fun c hc => ⟨digB_lt_b (by omega) (by omega) u c hc, by
        obtain ⟨d, hd, rfl⟩ := digB_digits (b := 10) (by omega) u c hc
        have : ∀ d : Fin 10, capD (dgc d.val) = false := by decide +kernel
        exact this ⟨d, hd⟩⟩
      rw [foldV_digB (by omega) (by omega)] at h1
      have hlen : ∀ l : List UInt8, (stripZ l).length ≤ l.length := fun l => by
        induction l with
        | nil => exact Nat.le_refl _
        | cons c r ih =>
          cases r with
          | nil => exact Nat.le_refl _
          | cons d r => rw [stripZ]; split <;> (simp only [List.length_cons] at ih ⊢; omega)
      have h2 : ¬ 1 < (digB 10 u).length := fun h => by
        rw [stripZ_drop _ h h48] at h1
        have := hlen ((digB 10 u).drop 1)
        rw [← h1, List.length_drop] at this
        omega
      have h3 : digB 10 u = [48] := by
        generalize digB 10 u = D at *
        match D, h48, h2 with
        | [c], h, _ => have : c = 48 := by simpa using h
                       rw [this]
        | c :: d :: r, _, h => simp at h
        | [], h, _ => simp at h
      have h4 := foldV_digB (b := 10) (by omega) (by omega) u
      rw [h3] at h4 ⊢
      have : u = 0 := by rw [← h4]; decide
      rw [this]; decide
    · have hpre : pre (digB 10 u) 0 = (10, digB 10 u) := by rw [pre, if_neg (by simp), if_pos h48]
      rw [pUe_pre hpre digB_ne (by omega) (by omega) (digB_lt_b (by omega) (by omega) u), foldV_digB (by omega) (by omega), mx64, if_pos (by omega)]
/-- a byte that is no digit makes it no number -/
theorem scan_bad {b mx : Nat} (h1 : 1 ≤ b) (l m : List UInt8) (c : UInt8) (hl : ∀ x ∈ l, digN x < b) (hc : b ≤ digN c) (hv : foldV b l 0 ≤ mx) : scan b mx false (l ++ c :: m) 0 false = .syn := by
  have hP : digP b (l ++ c :: m) = l := by
    clear hv
    induction l with
    | nil => rw [List.nil_append, digP, if_neg (by omega)]
    | cons x r ih => rw [List.cons_append, digP, if_pos (hl x (List.mem_cons_self ..)), ih fun y hy => hl y (List.mem_cons_of_mem _ hy)]
  have hA : allD b (l ++ c :: m) = false := by
    rw [allD, List.all_eq_false]; exact ⟨c, by simp, by simp; omega⟩
  rw [scan_char h1 _ 0 false (Nat.zero_le _)]
  have e : stripU false (l ++ c :: m) = l ++ c :: m := rfl
  rw [e, hP, hA, if_neg (by omega), if_pos rfl]
theorem pUe_bad {b : Nat} (h2 : 2 ≤ b) (h36 : b ≤ 36) (l m : List UInt8) (c : UInt8) (hl : ∀ x ∈ l, digN x < b) (hc : b ≤ digN c) (hv : foldV b l 0 ≤ 18446744073709551615) : pUe (l ++ c :: m) b 64 = (0, 2) := by
  have hb0 : (b == 0) = false := by simp; omega
  rw [pUe, if_neg (by simp), pUb, pre_pos (by omega), hb0, scan_bad (by omega) l m c hl hc (by rw [mx64]; exact hv)]; rfl
theorem pIe_of_bad {l : List UInt8} {b bits : Nat} (h : pUe (noSign l) b bits = (0, 2)) : pIe l b bits = (0, 2) := by
  rw [pIe]; split
  · rfl
  · rw [pIb, h, if_pos rfl]
/-- the first byte of what stands there, with a byte put in -/
theorem put_head {b u at_ : Nat} {c : UInt8} (h2 : 2 ≤ b) (h36 : b ≤ 36) (h : at_ = 0 → c ≠ 43 ∧ c ≠ 45) : noSign ((digB b u).take at_ ++ c :: (digB b u).drop at_) = (digB b u).take at_ ++ c :: (digB b u).drop at_ := by
  have hd := digB_head h2 h36 u
  by_cases h0 : at_ = 0
  · subst h0
    exact noSign_of (by simp [(h rfl).2]) (by simp [(h rfl).1])
  · have e : ((digB b u).take at_ ++ c :: (digB b u).drop at_)[0]? = (digB b u)[0]? := by
      have hp : 1 ≤ (digB b u).length := List.length_pos_iff.2 digB_ne
      rw [List.getElem?_append_left (by rw [List.length_take]; omega), List.getElem?_take, if_pos (by omega)]
    exact noSign_of (by rw [e]; exact hd.1) (by rw [e]; exact hd.2)
theorem take_le {b : Nat} (h2 : 2 ≤ b) (h36 : b ≤ 36) (u k : Nat) : foldV b ((digB b u).take k) 0 ≤ u := by
  have h := foldV_digB h2 h36 u
  rw [← List.take_append_drop k (digB b u), foldV_append] at h
  have := foldV_mono (b := b) (by omega) ((digB b u).drop k) (foldV b ((digB b u).take k) 0)
  omega
/-- a text with a sign is no number without one -/
theorem read_signed {l : List UInt8} {base : Nat} (hb : base = 0 ∨ 2 ≤ base ∧ base ≤ 36) (h : l[0]? = some 45 ∨ l[0]? = some 43) : (specRead l base).good = false ∧ (specRead l base).op = false ∧ (specRead l base).v = 0 := by
  obtain ⟨c, r, rfl, hc⟩ : ∃ c r, l = c :: r ∧ (c = 45 ∨ c = 43) := by
    cases l with
    | nil => simp at h
    | cons c r => exact ⟨c, r, rfl, by simpa using h⟩
  have hd : digN c = 99 := by rcases hc with rfl | rfl <;> decide
  have h95 : c ≠ 95 := by rcases hc with rfl | rfl <;> decide
  have h48 : c ≠ 48 := by rcases hc with rfl | rfl <;> decide
  have hP : ∀ b m, b ≤ 36 → digP b (c :: m) = [] := fun b m hb => by rw [digP, if_neg (by omega)]
  have hA : ∀ b m, b ≤ 36 → allD b (c :: m) = false := fun b m hb => by rw [allD_cons, show decide (digN c < b) = false by simp; omega]; rfl
  rcases hb with rfl | ⟨h2, h36⟩
  · have hsp : specBase (c :: r) 0 = ⟨10, c :: r, true, false, false⟩ := by rw [specBase, if_neg (by simp), if_pos (.inr (by simp [h48]))]
    have hn : noU (c :: r) = c :: noU r := by simp [noU, h95]
    simp only [specRead, hsp, readDig, if_true, hn, hP 10 _ (by omega), hA 10 _ (by omega)]
    simp [foldV]
  · have hsp : specBase (c :: r) base = ⟨base, c :: r, false, false, false⟩ := by rw [specBase, if_pos (by omega)]
    simp [specRead, hsp, readDig, hP base r h36, hA base r h36, foldV]
end Go.Proofs.YthbnglkpkgpojaaDoor
