/-
  Plain: digits with underscores before some of them, and what the library reads of them. No program in sight.
-/
import Derived.Test.YtjjocdhgjbhnhaaDoorPlainCanon
namespace Go.Proofs.YtjjocdhgjbhnhaaDoor
open Go.RowKit
def markB (marks : List UInt8) (i : Nat) : Bool := match marks[i]? with
  | some m => decide (m.toNat % 2 = 1)
  | none => false
/-- digits from the i-th on, with an underscore before those that are marked, but not before the first one -/
def underL (marks : List UInt8) : List UInt8 → Nat → List UInt8
  | [], _ => []
  | c :: r, i => if 0 < i ∧ markB marks i = true then 95 :: c :: underL marks r (i + 1) else c :: underL marks r (i + 1)
theorem underL_noU (marks : List UInt8) : ∀ (D : List UInt8) (i : Nat), (∀ c ∈ D, c ≠ 95) → noU (underL marks D i) = D
  | [], _, _ => rfl
  | c :: r, i, h => by
    have hc : c ≠ 95 := h c (List.mem_cons_self ..)
    have ih := underL_noU marks r (i + 1) fun x hx => h x (List.mem_cons_of_mem _ hx)
    rw [underL]
    unfold noU at ih ⊢
    split
    · simp [hc, ih]
    · simp [hc, ih]
theorem underL_right (marks : List UInt8) : ∀ (D : List UInt8) (i : Nat), (∀ c ∈ D, c ≠ 95) → rightB true (underL marks D i) = true
  | [], _, _ => rfl
  | c :: r, i, h => by
    have hc : c ≠ 95 := h c (List.mem_cons_self ..)
    have ih := underL_right marks r (i + 1) fun x hx => h x (List.mem_cons_of_mem _ hx)
    rw [underL]
    split
    · rw [rightB, if_pos rfl, nextOK, rightB, if_neg hc, ih]; simp [hc]
    · rw [rightB, if_neg hc, ih]
theorem underL_right0 (marks : List UInt8) (bf : Bool) : ∀ (D : List UInt8), (∀ c ∈ D, c ≠ 95) → rightB bf (underL marks D 0) = true
  | [], _ => rfl
  | c :: r, h => by
    have hc : c ≠ 95 := h c (List.mem_cons_self ..)
    rw [underL, if_neg (by omega), rightB, if_neg hc]
    exact underL_right marks r 1 fun x hx => h x (List.mem_cons_of_mem _ hx)
theorem underL_head (marks : List UInt8) (D : List UInt8) : (underL marks D 0)[0]? = D[0]? := by
  cases D with
  | nil => rfl
  | cons c r => rw [underL, if_neg (by omega)]; rfl
theorem underL_length (marks : List UInt8) : ∀ (D : List UInt8) (i : Nat), (underL marks D i).length ≤ 2 * D.length
  | [], _ => by simp [underL]
  | c :: r, i => by
    have ih := underL_length marks r (i + 1)
    rw [underL]
    split <;> (simp only [List.length_cons]; omega)
theorem underL_nil {marks D : List UInt8} {i : Nat} (h : D ≠ []) : underL marks D i ≠ [] := by
  cases D with
  | nil => exact absurd rfl h
  | cons c r => rw [underL]; split <;> simp
theorem underL_mem (marks : List UInt8) : ∀ (D : List UInt8) (i : Nat), ∀ c ∈ underL marks D i, c = 95 ∨ c ∈ D
  | [], _, c, h => by simp [underL] at h
  | d :: r, i, c, h => by
    have ih := underL_mem marks r (i + 1) c
    rw [underL] at h
    split at h
    · simp only [List.mem_cons] at h ⊢
      rcases h with h | h | h
      · exact .inl h
      · exact .inr (.inl h)
      · exact (ih h).imp id .inr
    · simp only [List.mem_cons] at h ⊢
      rcases h with h | h
      · exact .inr (.inl h)
      · exact (ih h).imp id .inr
theorem underL_snoc (marks : List UInt8) : ∀ (D E : List UInt8) (i : Nat), underL marks (D ++ E) i = underL marks D i ++ underL marks E (i + D.length)
  | [], E, i => by simp [underL]
  | c :: r, E, i => by
    rw [List.cons_append, underL, underL, underL_snoc marks r E (i + 1), List.length_cons, show i + 1 + r.length = i + (r.length + 1) by omega]
    split <;> rfl
theorem dgc_fin : ∀ d : Fin 36, dgc d.val ≠ 95 ∧ capD (dgc d.val) = false := by decide +kernel
theorem digB_plain {b : Nat} (h2 : 2 ≤ b) (h36 : b ≤ 36) (u : Nat) : ∀ c ∈ digB b u, c ≠ 95 ∧ capD c = false ∧ digN c < b := fun c hc => by
  obtain ⟨d, hd, rfl⟩ := digB_digits h2 u c hc
  have := dgc_fin ⟨d, by omega⟩
  exact ⟨this.1, this.2, by rw [digN_dgc (by omega)]; exact hd⟩
theorem stripZ_length : ∀ (l : List UInt8), (stripZ l).length ≤ l.length
  | [] => Nat.le_refl _
  | [c] => Nat.le_refl _
  | c :: d :: r => by
    rw [stripZ]; split
    · have := stripZ_length (d :: r); simp only [List.length_cons] at this ⊢; omega
    · exact Nat.le_refl _
/-- the digits of a number do not begin with a zero, but for those of 0 -/
theorem digB_first {b : Nat} (h2 : 2 ≤ b) (h36 : b ≤ 36) (u : Nat) : (digB b u).length < 2 ∨ (digB b u)[0]? ≠ some 48 := by
  by_cases hl : (digB b u).length < 2
  · exact .inl hl
  · right
    intro h0
    have h1 := canon h2 h36 (digB b u) digB_ne fun c hc => ⟨(digB_plain h2 h36 u c hc).2.2, (digB_plain h2 h36 u c hc).2.1⟩
    rw [foldV_digB h2 h36, stripZ_drop _ (by omega) h0] at h1
    have h3 := stripZ_length ((digB b u).drop 1)
    rw [← h1, List.length_drop] at h3
    omega
theorem e64 : (2 : Nat) ^ (if (64 : Nat) = 0 then 64 else 64) - 1 = 18446744073709551615 := by decide
theorem read_at {l t : List UInt8} {b : Nat} {bf : Bool} (hsp : specBase l 0 = ⟨b, t, true, bf, false⟩) : (specRead l 0).good = (rightB bf t && !(noU t).isEmpty && allD b (noU t)) ∧ (specRead l 0).op = (digP b (noU t)).any capD ∧ (specRead l 0).v = foldV b (digP b (noU t)) 0 := by
  simp [specRead, hsp, readDig]
theorem allD_digB {b : Nat} (h2 : 2 ≤ b) (h36 : b ≤ 36) (u : Nat) : allD b (digB b u) = true := by
  rw [allD, List.all_eq_true]; intro c hc; simpa using (digB_plain h2 h36 u c hc).2.2
theorem cap_digB {b : Nat} (h2 : 2 ≤ b) (h36 : b ≤ 36) (u : Nat) : (digB b u).any capD = false := by
  rw [List.any_eq_false]; intro c hc; simp [(digB_plain h2 h36 u c hc).2.1]
theorem marks_ok {l t : List UInt8} {b u : Nat} {bf : Bool} (hsp : specBase l 0 = ⟨b, t, true, bf, false⟩) (h2 : 2 ≤ b) (h36 : b ≤ 36) (hr : rightB bf t = true) (hn : noU t = digB b u) (hu : u < 18446744073709551616) : pUe l 0 64 = (u, 0) := by
  obtain ⟨g, o, v⟩ := read_at hsp
  have hne : (digB b u).isEmpty = false := by simpa using digB_ne
  rw [hn, hr, allD_digB h2 h36, hne] at g
  rw [hn, digP_all (allD_digB h2 h36 u), cap_digB h2 h36] at o
  rw [hn, digP_all (allD_digB h2 h36 u), foldV_digB h2 h36] at v
  simp only [Bool.not_false, Bool.and_true] at g
  rw [agree l 0 64 (.inl rfl) (fun _ => o) (fun h => by rw [g] at h; cases h), g, v, e64, if_neg (by simp), if_neg (by omega)]
theorem marks_bad {l t : List UInt8} {b : Nat} {bf : Bool} (hsp : specBase l 0 = ⟨b, t, true, bf, false⟩) (hr : rightB bf t = false) (ho : (digP b (noU t)).any capD = false) (hv : foldV b (digP b (noU t)) 0 ≤ 18446744073709551615) : pUe l 0 64 = (0, 2) := by
  obtain ⟨g, o, v⟩ := read_at hsp
  rw [hr] at g
  simp only [Bool.false_and] at g
  rw [agree l 0 64 (.inl rfl) (fun _ => by rw [o, ho]) (fun _ _ => by rw [v, e64]; exact hv), g, if_pos rfl]
theorem rightB_last : ∀ (bf : Bool) (l : List UInt8), rightB bf (l ++ [95]) = false
  | bf, [] => by simp [rightB, nextOK]
  | bf, c :: r => by
    rw [List.cons_append, rightB, rightB_last true r]
    split <;> simp
theorem noU_append (l m : List UInt8) : noU (l ++ m) = noU l ++ noU m := by simp [noU]
theorem foldV_bound {b : Nat} (h2 : 2 ≤ b) (h36 : b ≤ 36) (n : Nat) (u : Nat) : 1 ≤ u → foldV b (digB b u) n ≤ n * b * u + u := by
  induction u using Nat.strongRecOn with
  | _ u ih =>
    intro hu1
    by_cases hu : u < b
    · rw [digB_small hu, foldV, foldV, digN_dgc (by omega)]
      have : n * b * 1 ≤ n * b * u := Nat.mul_le_mul_left _ hu1
      omega
    · rw [digB_big h2 (by omega), foldV_append, foldV, foldV, digN_dgc (Nat.lt_of_lt_of_le (Nat.mod_lt _ (by omega)) h36)]
      have h1 := ih (u / b) (Nat.div_lt_self (by omega) (by omega)) (Nat.div_pos (by omega) (by omega))
      have h3 : foldV b (digB b (u / b)) n * b ≤ (n * b * (u / b) + u / b) * b := Nat.mul_le_mul_right b h1
      rw [Nat.add_mul, Nat.mul_assoc (n * b)] at h3
      have h4 : u / b * b + u % b = u := by rw [Nat.mul_comm]; exact Nat.div_add_mod u b
      have h5 : n * b * (u / b * b) ≤ n * b * u := Nat.mul_le_mul_left _ (by omega)
      omega
theorem one_before {u : Nat} (hu : u ≤ 4294967296) : foldV 10 (digB 10 u) 1 ≤ 18446744073709551615 := by
  by_cases h0 : u = 0
  · subst h0; rw [digB_small (by omega), foldV, foldV, digN_dgc (by omega)]; omega
  · have := foldV_bound (b := 10) (by omega) (by omega) 1 u (by omega); omega
theorem digP_part {b : Nat} (hb : b ≤ 36) : ∀ (t : List UInt8), ∃ s, noU t = digP b t ++ s
  | [] => ⟨[], rfl⟩
  | c :: r => by
    by_cases hd : digN c < b
    · have hc : c ≠ 95 := fun e => by rw [e, digN_95] at hd; omega
      obtain ⟨s, hs⟩ := digP_part hb r
      refine ⟨s, ?_⟩
      rw [digP, if_pos hd, List.cons_append, ← hs]
      simp [noU, hc]
    · exact ⟨noU (c :: r), by rw [digP, if_neg hd]; rfl⟩
theorem noU_same {t : List UInt8} (h : 95 ∉ t) : noU t = t := by
  unfold noU
  rw [List.filter_eq_self]
  intro c hc
  have : c ≠ 95 := fun e => h (e ▸ hc)
  simpa using this
/-- in base 10 underscores are no part of a number -/
theorem marks_ten {t : List UInt8} {u : Nat} (hn : noU t = digB 10 u) (ht : t ≠ digB 10 u) (hu : u < 18446744073709551616) : pUe t 10 64 = (0, 2) := by
  have h95 : 95 ∈ t := by
    by_cases h : 95 ∈ t
    · exact h
    · exact absurd ((noU_same h).symm.trans hn) ht
  have hsp : specBase t 10 = ⟨10, t, false, false, false⟩ := by rw [specBase, if_pos (by omega)]
  have hall : allD 10 t = false := by
    rw [allD, List.all_eq_false]; exact ⟨95, h95, by decide⟩
  obtain ⟨s, hs⟩ := digP_part (b := 10) (by omega) t
  have hg : (specRead t 10).good = false := by simp [specRead, hsp, readDig, hall]
  have ho : (specRead t 10).op = false := by
    have : (specRead t 10).op = (digP 10 t).any capD := by simp [specRead, hsp, readDig]
    rw [this, List.any_eq_false]
    intro c hc
    have : c ∈ digB 10 u := by rw [← hn, hs]; exact List.mem_append_left _ hc
    simp [(digB_plain (by omega) (by omega) u c this).2.1]
  have hv : (specRead t 10).v ≤ 18446744073709551615 := by
    have : (specRead t 10).v = foldV 10 (digP 10 t) 0 := by simp [specRead, hsp, readDig]
    rw [this]
    have h1 := foldV_digB (b := 10) (by omega) (by omega) u
    rw [← hn, hs, foldV_append] at h1
    have := foldV_mono (b := 10) (by omega) s (foldV 10 (digP 10 t) 0)
    omega
  rw [agree t 10 64 (.inr (by omega)) (fun _ => ho) (fun _ _ => by rw [e64]; exact hv), hg, if_pos rfl]
theorem spec_dec {l : List UInt8} (h : l.length < 2 ∨ l[0]? ≠ some 48) : specBase l 0 = ⟨10, l, true, false, false⟩ := by rw [specBase, if_neg (by simp), if_pos h]
theorem spec_hex (t : List UInt8) : specBase (48 :: 120 :: t) 0 = ⟨16, t, true, true, false⟩ := by simp [specBase]
theorem spec_oct (t : List UInt8) : specBase (48 :: 95 :: t) 0 = ⟨8, 95 :: t, true, true, false⟩ := by simp [specBase]
theorem underL_first (marks : List UInt8) (u : Nat) : (underL marks (digB 10 u) 0).length < 2 ∨ (underL marks (digB 10 u) 0)[0]? ≠ some 48 := by
  rw [underL_head]
  rcases digB_first (b := 10) (by omega) (by omega) u with h | h
  · left
    have hne := digB_ne (b := 10) (u := u)
    generalize digB 10 u = D at *
    match D, hne, h with
    | [c], _, _ => simp [underL]
    | c :: d :: r, _, h => simp only [List.length_cons] at h; omega
  · exact .inr h
theorem nextOK_under {marks : List UInt8} : ∀ {D : List UInt8}, D ≠ [] → (∀ c ∈ D, c ≠ 95) → nextOK (underL marks D 0) = true
  | [], h, _ => absurd rfl h
  | c :: r, _, h => by
    have hc : c ≠ 95 := h c (List.mem_cons_self ..)
    rw [underL, if_neg (by omega), nextOK]; simpa using hc
/-- the texts that are read as u -/
theorem marks_good (marks : List UInt8) (u : Nat) (hu : u < 18446744073709551616) : ∀ t ∈ [underL marks (digB 10 u) 0, 48 :: 120 :: underL marks (digB 16 u) 0, 48 :: 120 :: 95 :: underL marks (digB 16 u) 0, 48 :: 95 :: underL marks (digB 8 u) 0], pUe t 0 64 = (u, 0) := by
  intro t ht
  have n10 := fun c hc => (digB_plain (b := 10) (by omega) (by omega) u c hc).1
  have n16 := fun c hc => (digB_plain (b := 16) (by omega) (by omega) u c hc).1
  have n8 := fun c hc => (digB_plain (b := 8) (by omega) (by omega) u c hc).1
  simp only [List.mem_cons, List.not_mem_nil, or_false] at ht
  rcases ht with rfl | rfl | rfl | rfl
  · exact marks_ok (spec_dec (underL_first marks u)) (by omega) (by omega) (underL_right0 marks false _ n10) (underL_noU marks _ 0 n10) hu
  · exact marks_ok (spec_hex _) (by omega) (by omega) (underL_right0 marks true _ n16) (underL_noU marks _ 0 n16) hu
  · refine marks_ok (spec_hex _) (by omega) (by omega) ?_ ?_ hu
    · rw [rightB, if_pos rfl, nextOK_under digB_ne n16, underL_right0 marks true _ n16]; rfl
    · rw [show noU (95 :: underL marks (digB 16 u) 0) = noU (underL marks (digB 16 u) 0) by simp [noU]]; exact underL_noU marks (digB 16 u) 0 n16
  · refine marks_ok (spec_oct _) (by omega) (by omega) ?_ ?_ hu
    · rw [rightB, if_pos rfl, nextOK_under digB_ne n8, underL_right0 marks true _ n8]; rfl
    · rw [show noU (95 :: underL marks (digB 8 u) 0) = noU (underL marks (digB 8 u) 0) by simp [noU]]; exact underL_noU marks (digB 8 u) 0 n8
theorem noU_95 (t : List UInt8) : noU (95 :: t) = noU t := by simp [noU]
/-- the texts that are no numbers -/
theorem marks_refused (marks : List UInt8) (u : Nat) (hu : u ≤ 4294967296) : ∀ t ∈ [95 :: underL marks (digB 10 u) 0, underL marks (digB 10 u) 0 ++ [95], 48 :: 120 :: 95 :: 95 :: underL marks (digB 16 u) 0, 48 :: 120 :: (underL marks (digB 16 u) 0 ++ [95]), 49 :: 95 :: 95 :: underL marks (digB 10 u) 0, 95 :: 48 :: 120 :: underL marks (digB 16 u) 0], pUe t 0 64 = (0, 2) := by
  intro t ht
  have u10 := underL_noU marks (digB 10 u) 0 fun c hc => (digB_plain (b := 10) (by omega) (by omega) u c hc).1
  have u16 := underL_noU marks (digB 16 u) 0 fun c hc => (digB_plain (b := 16) (by omega) (by omega) u c hc).1
  have p10 := digP_all (allD_digB (b := 10) (by omega) (by omega) u)
  have p16 := digP_all (allD_digB (b := 16) (by omega) (by omega) u)
  have c10 := cap_digB (b := 10) (by omega) (by omega) u
  have c16 := cap_digB (b := 16) (by omega) (by omega) u
  have f10 := foldV_digB (b := 10) (by omega) (by omega) u
  have f16 := foldV_digB (b := 16) (by omega) (by omega) u
  simp only [List.mem_cons, List.not_mem_nil, or_false] at ht
  rcases ht with rfl | rfl | rfl | rfl | rfl | rfl
  · refine marks_bad (spec_dec (.inr (by simp))) ?_ ?_ ?_
    · rw [rightB, if_pos rfl]; simp
    · rw [noU_95, u10, p10, c10]
    · rw [noU_95, u10, p10, f10]; omega
  · by_cases hl : (underL marks (digB 10 u) 0)[0]? = some 48
    · have h1 : (underL marks (digB 10 u) 0).length < 2 := (underL_first marks u).resolve_right fun h => h hl
      generalize hT : underL marks (digB 10 u) 0 = T at *
      match T, hl, h1 with
      | [c], hl, _ =>
        have : c = 48 := by simpa using hl
        subst this
        refine marks_bad (spec_oct []) ?_ ?_ ?_
        · simp [rightB, nextOK]
        · decide
        · decide
      | [], hl, _ => simp at hl
      | c :: d :: r, _, h => simp only [List.length_cons] at h; omega
    · refine marks_bad (spec_dec (.inr ?_)) (rightB_last _ _) ?_ ?_
      · rw [List.getElem?_append_left (List.length_pos_iff.2 (underL_nil digB_ne))]; exact hl
      · rw [noU_append, u10, show noU [95] = [] from rfl, List.append_nil, p10, c10]
      · rw [noU_append, u10, show noU [95] = [] from rfl, List.append_nil, p10, f10]; omega
  · refine marks_bad (spec_hex _) ?_ ?_ ?_
    · rw [rightB, if_pos rfl]; simp [nextOK]
    · rw [noU_95, noU_95, u16, p16, c16]
    · rw [noU_95, noU_95, u16, p16, f16]; omega
  · refine marks_bad (spec_hex _) (rightB_last _ _) ?_ ?_
    · rw [noU_append, u16, show noU [95] = [] from rfl, List.append_nil, p16, c16]
    · rw [noU_append, u16, show noU [95] = [] from rfl, List.append_nil, p16, f16]; omega
  · have e : noU (49 :: 95 :: 95 :: underL marks (digB 10 u) 0) = 49 :: digB 10 u := by rw [show noU (49 :: 95 :: 95 :: underL marks (digB 10 u) 0) = 49 :: noU (underL marks (digB 10 u) 0) by simp [noU], u10]
    have e1 : digN 49 = 1 := by decide
    refine marks_bad (spec_dec (.inr (by simp))) ?_ ?_ ?_
    · rw [rightB, if_neg (by decide), rightB, if_pos rfl]; simp [nextOK]
    · rw [e, digP, if_pos (by rw [e1]; omega), p10, List.any_cons, c10]; decide
    · rw [e, digP, if_pos (by rw [e1]; omega), p10, foldV, e1]; exact one_before hu
  · have e : noU (95 :: 48 :: 120 :: underL marks (digB 16 u) 0) = 48 :: 120 :: digB 16 u := by rw [show noU (95 :: 48 :: 120 :: underL marks (digB 16 u) 0) = 48 :: 120 :: noU (underL marks (digB 16 u) 0) by simp [noU], u16]
    have e1 : digP 10 (48 :: 120 :: digB 16 u) = [48] := by rw [digP, if_pos (by decide), digP, if_neg (by decide)]
    refine marks_bad (spec_dec (.inr (by simp))) ?_ ?_ ?_
    · rw [rightB, if_pos rfl]; simp
    · rw [e, e1]; decide
    · rw [e, e1]; decide
end Go.Proofs.YtjjocdhgjbhnhaaDoor
