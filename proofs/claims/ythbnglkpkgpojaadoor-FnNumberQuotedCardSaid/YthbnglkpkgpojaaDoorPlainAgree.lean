/-
  Plain: the library reads a number without a sign as the reference does, where the reference tells. No program in sight.
-/
import Derived.Test.YthbnglkpkgpojaaDoorPlainSpec
namespace Go.Proofs.YthbnglkpkgpojaaDoor
open Go.RowKit
set_option linter.unusedVariables false
theorem lowN_is_fin : ∀ c : Fin 256, (c.val ||| 32 = 98 ↔ c.val = 98 ∨ c.val = 66) ∧ (c.val ||| 32 = 111 ↔ c.val = 111 ∨ c.val = 79) ∧ (c.val ||| 32 = 120 ↔ c.val = 120 ∨ c.val = 88) := by decide +kernel
theorem lowN_98 (c : UInt8) : lowN c = 98 ↔ c = 98 ∨ c = 66 := by
  rw [← UInt8.toNat_inj, ← UInt8.toNat_inj]; exact (lowN_is_fin ⟨c.toNat, c.toNat_lt⟩).1
theorem lowN_111 (c : UInt8) : lowN c = 111 ↔ c = 111 ∨ c = 79 := by
  rw [← UInt8.toNat_inj, ← UInt8.toNat_inj]; exact (lowN_is_fin ⟨c.toNat, c.toNat_lt⟩).2.1
theorem lowN_120 (c : UInt8) : lowN c = 120 ↔ c = 120 ∨ c = 88 := by
  rw [← UInt8.toNat_inj, ← UInt8.toNat_inj]; exact (lowN_is_fin ⟨c.toNat, c.toNat_lt⟩).2.2
theorem digU_10 {c : UInt8} (x : Bool) (h : digN c < 10) : digU x c := by
  left
  unfold digN at h
  split at h
  · assumption
  · split at h
    · omega
    · split at h <;> omega
theorem digU_16 {c : UInt8} (h : digN c < 16) : digU true c := by
  by_cases h1 : 48 ≤ c.toNat ∧ c.toNat ≤ 57
  · exact .inl h1
  · right
    refine ⟨rfl, ?_⟩
    by_cases h2 : 97 ≤ lowN c ∧ lowN c ≤ 122
    · have := digN_letter h2.1 h2.2; omega
    · have := digN_nodigit h1 h2; omega
theorem all_of_noU {b : Nat} {t : List UInt8} (h : allD b (noU t) = true) : ∀ c ∈ t, c = 95 ∨ digN c < b := by
  intro c hc
  by_cases h95 : c = 95
  · exact .inl h95
  · right
    have : c ∈ noU t := by simp [noU, hc, h95]
    simpa [allD] using (List.all_eq_true.1 h c this)
theorem rightB_noU : ∀ (bf : Bool) (t : List UInt8), t ≠ [] → noU t = [] → rightB bf t = false
  | _, [], h, _ => absurd rfl h
  | bf, c :: r, _, h => by
    have hc : c = 95 := by
      by_cases hc : c = 95
      · exact hc
      · simp [noU, hc] at h
    subst hc
    rw [rightB, if_pos rfl]
    cases r with
    | nil => simp [nextOK]
    | cons d r' =>
      have hd : d = 95 := by
        by_cases hd : d = 95
        · exact hd
        · simp [noU, hd] at h
      subst hd
      simp [nextOK]
/-- where both have the same base and digits -/
theorem agree_aligned {l t : List UInt8} {b mx : Nat} {bf : Bool} (hl : l ≠ []) (ht : t ≠ []) (h1 : 1 ≤ b) (hpre : pre l 0 = (b, t)) (hsp : specBase l 0 = ⟨b, t, true, bf, false⟩)
    (hu : (∀ c ∈ t, c = 95 ∨ digN c < b) → uOK l = rightB bf t) (hlarge : (specRead l 0).good = false → (specRead l 0).v ≤ mx) :
    resOf l mx (scan b mx true t 0 false) = if (specRead l 0).good = false then (0, 2) else if mx < (specRead l 0).v then (mx, 1) else ((specRead l 0).v, 0) := by
  have hg : (specRead l 0).good = (rightB bf t && !(noU t).isEmpty && allD b (noU t)) := by simp [specRead, hsp, readDig]
  have hv : (specRead l 0).v = foldV b (digP b (noU t)) 0 := by simp [specRead, hsp, readDig]
  rw [hg, hv] at hlarge ⊢
  rw [scan_char h1 t 0 false (Nat.zero_le _)]
  have e : stripU true t = noU t := rfl
  rw [e]
  cases hall : allD b (noU t)
  · have hle := hlarge (by simp [hall])
    rw [if_neg (by omega), if_pos rfl, if_pos (by simp)]; rfl
  · rw [digP_all hall] at hlarge ⊢
    have huu := hu (all_of_noU hall)
    cases hr : rightB bf t
    · have hle := hlarge (by simp [hr])
      have h95 : 95 ∈ t := by
        by_cases h : 95 ∈ t
        · exact h
        · rw [rightB_none bf t h] at hr; cases hr
      rw [if_neg (by omega), if_neg (by simp), if_pos (by simp), resOf, if_pos ⟨by simp [h95], by rw [huu, hr]⟩]
    · have hne : (noU t).isEmpty = false := by
        cases hn : noU t with
        | nil => rw [rightB_noU bf t ht hn] at hr; cases hr
        | cons a r => rfl
      rw [hne]
      simp only [Bool.not_false, Bool.and_true, Bool.true_eq_false, if_false]
      by_cases hm : mx < foldV b (noU t) 0
      · rw [if_pos hm, if_pos hm]; rfl
      · rw [if_neg hm, if_neg hm, resOf, if_neg (by rw [huu, hr]; simp)]
theorem noSign_of {l : List UInt8} (h1 : l[0]? ≠ some 45) (h2 : l[0]? ≠ some 43) : noSign l = l := by rw [noSign, if_neg (by rintro (h | h); exact h1 h; exact h2 h)]
theorem digN_45 : digN 45 = 99 := by decide
theorem digN_43 : digN 43 = 99 := by decide
theorem agree (l : List UInt8) (base bits : Nat) (hb : base = 0 ∨ 2 ≤ base ∧ base ≤ 36) (hop : l ≠ [] → (specRead l base).op = false)
    (hlarge : (specRead l base).good = false → l ≠ [] → (specRead l base).v ≤ 2 ^ (if bits = 0 then 64 else bits) - 1) :
    pUe l base bits = if (specRead l base).good = false then (0, 2) else if 2 ^ (if bits = 0 then 64 else bits) - 1 < (specRead l base).v then (2 ^ (if bits = 0 then 64 else bits) - 1, 1) else ((specRead l base).v, 0) := by
  by_cases hl : l = []
  · subst hl
    rw [pUe, if_pos rfl, if_pos]
    unfold specRead specBase
    by_cases h0 : base ≠ 0
    · simp [h0, readDig]
    · simp [h0, readDig, noU]
  · have hop := hop hl
    have hlarge := fun h => hlarge h hl
    rw [pUe, if_neg hl, pUb]
    generalize 2 ^ (if bits = 0 then 64 else bits) - 1 = mx at *
    rcases hb with rfl | ⟨h2, h36⟩
    · rw [show ((0 : Nat) == 0) = true from rfl]
      by_cases h48 : l[0]? = some 48
      · obtain ⟨r, rfl⟩ : ∃ r, l = 48 :: r := by
          cases l with
          | nil => simp at h48
          | cons a r => simp at h48; exact ⟨r, by rw [h48]⟩
        cases r with
        | nil =>
          have e1 : pre [48] 0 = (8, []) := by decide
          have e2 : specBase [48] 0 = ⟨10, [48], true, false, false⟩ := by simp [specBase]
          have e3 : (specRead [48] 0).good = true := by simp [specRead, e2, readDig, noU, rightB, allD]; decide
          have e4 : (specRead [48] 0).v = 0 := by simp [specRead, e2, readDig, noU]; decide
          rw [e1, e3, e4, scan, if_neg (by simp), if_neg (by omega), resOf, if_neg (by simp)]
        | cons c t =>
          have hc1 : (48 :: c :: t)[1]? = some c := rfl
          have hns : noSign (48 :: c :: t) = 48 :: c :: t := noSign_of (by simp) (by simp)
          have hcap : ¬ (c = 66 ∨ c = 79 ∨ c = 88) := by
            intro h
            have hs : specBase (48 :: c :: t) 0 = ⟨16, t, true, true, true⟩ := by
              rcases h with rfl | rfl | rfl <;> simp [specBase]
            have : (specRead (48 :: c :: t) 0).op = true := by simp [specRead, hs]
            rw [this] at hop; cases hop
          by_cases hp : c = 98 ∨ c = 111 ∨ c = 120
          · by_cases ht : t = []
            · subst ht
              have e1 : pre [48, c] 0 = (8, [c]) := by
                rw [pre, if_neg (by simp), if_neg (by simp), if_neg (by simp), if_neg (by simp), if_neg (by simp)]; rfl
              have e3 : (specRead [48, c] 0).good = false := by
                rcases hp with rfl | rfl | rfl <;> simp [specRead, specBase, readDig, noU]
              rw [e1, e3, if_pos rfl]
              have hd : 8 ≤ digN c := by rcases hp with rfl | rfl | rfl <;> decide
              rw [scan, if_neg (by rintro ⟨h, _⟩; rcases hp with h' | h' | h' <;> (rw [h] at h'; exact absurd h' (by decide))), if_pos hd]; rfl
            · have huok : ∀ x : Bool, (lowN c == 120) = x → (lowN c = 98 ∨ lowN c = 111 ∨ lowN c = 120) → uOK (48 :: c :: t) = uScan x t 1 := by
                intro x hx hlow
                rw [uOK, hns, uOKn, if_pos ⟨by simp, rfl, by simpa using hlow⟩]
                simp only [hc1, Option.map_some, List.drop_succ_cons, List.drop_zero]
                rw [← hx]; rfl
              rcases hp with rfl | rfl | rfl
              · rw [pre_b (by decide) ht]
                exact agree_aligned (bf := true) hl ht (by omega) (pre_b (by decide) ht) (by simp [specBase]) (fun h => by
                  rw [huok false (by decide) (by decide)]
                  exact (uScan_right t fun c hc => (h c hc).imp id fun h => digU_10 _ (by omega)).1) hlarge
              · rw [pre_o (by decide) ht]
                exact agree_aligned (bf := true) hl ht (by omega) (pre_o (by decide) ht) (by simp [specBase]) (fun h => by
                  rw [huok false (by decide) (by decide)]
                  exact (uScan_right t fun c hc => (h c hc).imp id fun h => digU_10 _ (by omega)).1) hlarge
              · rw [pre_x (by decide) ht]
                exact agree_aligned (bf := true) hl ht (by omega) (pre_x (by decide) ht) (by simp [specBase]) (fun h => by
                  rw [huok true (by decide) (by decide)]
                  exact (uScan_right t fun c hc => (h c hc).imp id fun h => digU_16 h).1) hlarge
          · have n98 : ¬ lowN c = 98 := by rw [lowN_98]; rintro (h | h); exact hp (.inl h); exact hcap (.inl h)
            have n111 : ¬ lowN c = 111 := by rw [lowN_111]; rintro (h | h); exact hp (.inr (.inl h)); exact hcap (.inr (.inl h))
            have n120 : ¬ lowN c = 120 := by rw [lowN_120]; rintro (h | h); exact hp (.inr (.inr h)); exact hcap (.inr (.inr h))
            have hpre : pre (48 :: c :: t) 0 = (8, c :: t) := by
              rw [pre, if_neg (by simp), if_neg (by simp), if_neg (by simp [n98]), if_neg (by simp [n111]), if_neg (by simp [n120])]; rfl
            have hsp : specBase (48 :: c :: t) 0 = ⟨8, c :: t, true, true, false⟩ := by
              simp only [not_or] at hp hcap
              simp [specBase, hp, hcap]
            rw [hpre]
            exact agree_aligned hl (by simp) (by omega) hpre hsp (fun h => by
              rw [uOK, hns, uOKn, if_neg (by simp [n98, n111, n120]), uScan, if_pos (.inl (by decide))]
              exact (uScan_right (c :: t) fun c hc => (h c hc).imp id fun h => digU_10 _ (by omega)).1) hlarge
      · have hpre : pre l 0 = (10, l) := by rw [pre, if_neg (by simp), if_pos h48]
        have hsp : specBase l 0 = ⟨10, l, true, false, false⟩ := by rw [specBase, if_neg (by simp), if_pos (.inr h48)]
        rw [hpre]
        exact agree_aligned hl hl (by omega) hpre hsp (fun h => by
          have g1 : l[0]? ≠ some 45 := fun e => by
            rcases h 45 (List.mem_of_getElem? e) with h' | h'
            · exact absurd h' (by decide)
            · rw [digN_45] at h'; omega
          have g2 : l[0]? ≠ some 43 := fun e => by
            rcases h 43 (List.mem_of_getElem? e) with h' | h'
            · exact absurd h' (by decide)
            · rw [digN_43] at h'; omega
          rw [uOK, noSign_of g1 g2, uOKn, if_neg (by rintro ⟨_, h', _⟩; exact h48 h')]
          exact (uScan_right l fun c hc => (h c hc).imp id fun h => digU_10 _ (by omega)).2.2) hlarge
    · have hb0 : (base == 0) = false := by simp; omega
      have hsp : specBase l base = ⟨base, l, false, false, false⟩ := by rw [specBase, if_pos (by omega)]
      have hg : (specRead l base).good = allD base l := by
        have : l.isEmpty = false := by simpa using hl
        simp [specRead, hsp, readDig, this]
      have hv : (specRead l base).v = foldV base (digP base l) 0 := by simp [specRead, hsp, readDig]
      rw [hg, hv] at hlarge ⊢
      rw [hb0, pre_pos (by omega), scan_char (by omega) l 0 false (Nat.zero_le _)]
      have e : stripU false l = l := rfl
      simp only [e]
      cases hall : allD base l
      · have := hlarge hall
        rw [if_neg (by omega), if_pos rfl, if_pos rfl]; rfl
      · rw [digP_all hall]
        simp only [Bool.true_eq_false, if_false]
        by_cases hm : mx < foldV base l 0
        · rw [if_pos hm, if_pos hm]; rfl
        · rw [if_neg hm, if_neg hm, resOf, if_neg (by simp)]
end Go.Proofs.YthbnglkpkgpojaaDoor
