/-
  Plain: what holds of quoted texts: no control characters, lengths, parts, that two texts have no quoted form in common. No program in sight.
-/
import Derived.Test.YthbnglkpkgpojaaDoorPlainText
namespace Go.Proofs.YthbnglkpkgpojaaDoor
open Go.Lib
set_option linter.unusedVariables false
set_option linter.unusedSimpArgs false
/-! The bytes of an element. -/
theorem hexB_fin : ∀ x : Fin 16, (48 ≤ (hexB x.val).toNat ∧ (hexB x.val).toNat ≤ 57) ∨ (97 ≤ (hexB x.val).toNat ∧ (hexB x.val).toNat ≤ 102) := by decide +kernel
theorem hexB_range (x : Nat) (h : x < 16) : 48 ≤ (hexB x).toNat ∧ (hexB x).toNat ≤ 102 ∧ (hexB x).toNat ≠ 92 := by
  have := hexB_fin ⟨x, h⟩
  simp only at this
  omega
theorem hexL_range (n : Nat) : ∀ k, ∀ c ∈ hexL n k, 48 ≤ c.toNat ∧ c.toNat ≤ 102 ∧ c.toNat ≠ 92
  | 0, c, h => by simp [hexL] at h
  | k + 1, c, h => by
    rw [hexL] at h
    rcases List.mem_cons.1 h with rfl | h
    · exact hexB_range _ (Nat.mod_lt _ (by omega))
    · exact hexL_range n k c h
/-- an escape sequence: a backslash, a letter, digits -/
theorem escL_shape {r : Int} (h : -256 ≤ r) : ∃ a t, escL r = 92 :: a :: t ∧ (85 ≤ a.toNat ∧ a.toNat ≤ 120 ∧ a ≠ 92) ∧ ∀ c ∈ t, 48 ≤ c.toNat ∧ c.toNat ≤ 102 ∧ c.toNat ≠ 92 := by
  unfold escL
  repeat' split
  all_goals first
    | exact ⟨_, [], rfl, by decide, by simp⟩
    | exact ⟨_, _, rfl, by decide, hexL_range _ _⟩
theorem encL_big {r : Int} (h : isCP r = true) (h1 : ¬ r < 128) : ∀ c ∈ encL r, 128 ≤ c.toNat := by
  have hb := cp_bounds h
  have key : ∀ z : Int, 128 ≤ z → z ≤ 255 → 128 ≤ (byteZ z).toNat := fun z a b => by have := byteZ_toNat (r := z) (by omega) b; omega
  unfold encL
  rw [if_neg h1]
  intro c hc
  split at hc
  · simp only [List.mem_cons, List.not_mem_nil, or_false] at hc
    rcases hc with rfl | rfl <;> exact key _ (by omega) (by omega)
  · split at hc
    · simp only [List.mem_cons, List.not_mem_nil, or_false] at hc
      rcases hc with rfl | rfl | rfl <;> exact key _ (by omega) (by omega)
    · simp only [List.mem_cons, List.not_mem_nil, or_false] at hc
      rcases hc with rfl | rfl | rfl | rfl <;> exact key _ (by omega) (by omega)
theorem encL_small {r : Int} (h : r < 128) : encL r = [byteZ r] := by rw [encL, if_pos h]
/-! One line. -/
/-- no control character, and each double quote behind a backslash; p: a backslash stands before -/
def lineB (p : Bool) : List UInt8 → Bool
  | [] => true
  | b :: r => (decide (32 ≤ b.toNat) && (b != 127) && (b != 34 || p)) && lineB (b == 92) r
def lastB (p : Bool) : List UInt8 → Bool
  | [] => p
  | b :: r => lastB (b == 92) r
theorem lineB_append : ∀ (a b : List UInt8) (p : Bool), lineB p (a ++ b) = (lineB p a && lineB (lastB p a) b)
  | [], b, p => by simp [lineB, lastB]
  | x :: a, b, p => by rw [List.cons_append, lineB, lineB, lastB, lineB_append a b]; simp only [Bool.and_assoc]
theorem lineB_safe : ∀ (l : List UInt8) (p : Bool), (∀ c ∈ l, 32 ≤ c.toNat ∧ c ≠ 127 ∧ c ≠ 34) → lineB p l = true
  | [], _, _ => rfl
  | c :: r, p, h => by
    obtain ⟨h1, h2, h3⟩ := h c (List.mem_cons_self ..)
    rw [lineB, lineB_safe r _ fun x hx => h x (List.mem_cons_of_mem _ hx)]
    simp [h1, h2, h3]
theorem ne_of_nat {c : UInt8} {k : Nat} (h : k < 256) (hc : c.toNat ≠ k) : c ≠ UInt8.ofNat k := fun e => hc (by rw [e, UInt8.toNat_ofNat']; omega)
theorem elem_line {st : Int → Bool} (hs : OkSt st) {r : Int} (hv : valE r) (p : Bool) : lineB p (elemL 34 (st r) r) = true := by
  have hge : -256 ≤ r := by
    rcases hv with h | h
    · omega
    · have := cp_bounds h; omega
  unfold elemL
  by_cases hq : r = 34 ∨ r = 92
  · rw [if_pos hq]
    rcases hq with rfl | rfl
    · simp only [show byteZ 34 = 34 from rfl]; cases p <;> decide
    · simp only [show byteZ 92 = 92 from rfl]; cases p <;> decide
  · rw [if_neg hq]
    cases hst : st r
    · rw [if_neg (by simp)]
      obtain ⟨a, t, e, ha, ht⟩ := escL_shape hge
      rw [e]
      refine lineB_safe _ _ fun c hc => ?_
      rcases List.mem_cons.1 hc with rfl | hc
      · decide
      · rcases List.mem_cons.1 hc with rfl | hc
        · exact ⟨by omega, ne_of_nat (k := 127) (by omega) (by omega), ne_of_nat (k := 34) (by omega) (by omega)⟩
        · have := ht c hc
          exact ⟨by omega, ne_of_nat (k := 127) (by omega) (by omega), ne_of_nat (k := 34) (by omega) (by omega)⟩
    · rw [if_pos rfl]
      have h0 := hs.nonneg r hst
      have hcp : isCP r = true := hv.resolve_left (by omega)
      refine lineB_safe _ _ fun c hc => ?_
      by_cases h1 : r < 128
      · have h2 := hs.ascii r hst h1
        rw [encL_small h1] at hc
        have e : c = byteZ r := by simpa using hc
        have e2 := byteZ_toNat (r := r) h0 (by omega)
        rw [← e] at e2
        exact ⟨by omega, ne_of_nat (k := 127) (by omega) (by omega), ne_of_nat (k := 34) (by omega) (by omega)⟩
      · have := encL_big hcp h1 c hc
        exact ⟨by omega, ne_of_nat (k := 127) (by omega) (by omega), ne_of_nat (k := 34) (by omega) (by omega)⟩
/-- what stands between the quotes -/
def flatE (q : Int) (st : Int → Bool) (es : List Int) : List UInt8 := es.flatMap fun r => elemL q (st r) r
theorem quoteL_eq (q : Int) (st : Int → Bool) (es : List Int) : quoteL q st es = byteZ q :: (flatE q st es ++ [byteZ q]) := rfl
theorem flat_line {st : Int → Bool} (hs : OkSt st) : ∀ (es : List Int), (∀ r ∈ es, valE r) → ∀ p, lineB p (flatE 34 st es) = true
  | [], _, p => rfl
  | r :: es, h, p => by
    rw [flatE, List.flatMap_cons, lineB_append, elem_line hs (h r (List.mem_cons_self ..))]
    exact flat_line hs es (fun x hx => h x (List.mem_cons_of_mem _ hx)) _
theorem lineB_at : ∀ (l : List UInt8) (p : Bool), lineB p l = true → ∀ (i : Nat) (c : UInt8), l[i]? = some c → 32 ≤ c.toNat ∧ c ≠ 127 ∧ (c = 34 → (i = 0 ∧ p = true) ∨ (0 < i ∧ l[i - 1]? = some 92))
  | [], _, _, i, c, h => by simp at h
  | b :: r, p, hl, i, c, h => by
    rw [lineB] at hl
    simp only [Bool.and_eq_true, Bool.or_eq_true, decide_eq_true_eq, bne_iff_ne] at hl
    cases i with
    | zero =>
      have e : b = c := by simpa using h
      subst e
      exact ⟨hl.1.1.1, hl.1.1.2, fun e => .inl ⟨rfl, by rcases hl.1.2 with h' | h'; exact absurd e h'; exact h'⟩⟩
    | succ j =>
      have h' : r[j]? = some c := by simpa using h
      obtain ⟨a1, a2, a3⟩ := lineB_at r _ hl.2 j c h'
      refine ⟨a1, a2, fun e => .inr ⟨by omega, ?_⟩⟩
      rcases a3 e with ⟨rfl, hp⟩ | ⟨hj, hp⟩
      · have : b = 92 := by simpa using hp
        rw [this]; rfl
      · have : j + 1 - 1 = (j - 1) + 1 := by omega
        rw [this]; simpa using hp
/-! Lengths. -/
theorem escL_len (r : Int) : (escL r).length = if r = 7 ∨ r = 8 ∨ r = 12 ∨ r = 10 ∨ r = 13 ∨ r = 9 ∨ r = 11 then 2 else if r < 32 ∨ r = 127 then 4 else if r < 65536 then 6 else 10 := by
  by_cases h : r = 7 ∨ r = 8 ∨ r = 12 ∨ r = 10 ∨ r = 13 ∨ r = 9 ∨ r = 11
  · rw [if_pos h]
    rcases h with rfl | rfl | rfl | rfl | rfl | rfl | rfl <;> rfl
  · rw [if_neg h]
    unfold escL
    rw [if_neg (by omega), if_neg (by omega), if_neg (by omega), if_neg (by omega), if_neg (by omega), if_neg (by omega), if_neg (by omega)]
    by_cases h0 : r < 0
    · rw [if_pos h0, if_pos (by omega)]; simp [hexL_length]
    · rw [if_neg h0]
      by_cases h1 : r < 32 ∨ r = 127
      · rw [if_pos h1, if_pos h1]; simp [hexL_length]
      · rw [if_neg h1, if_neg h1]
        by_cases h2 : r < 65536
        · rw [if_pos h2, if_pos h2]; simp [hexL_length]
        · rw [if_neg h2, if_neg h2]; simp [hexL_length]
theorem elem_len {q : Int} {st : Int → Bool} (hs : OkSt st) {r : Int} (hv : valE r) : (elemL q (st r) r).length ≤ 4 * (bytesE r).length := by
  have hby : 1 ≤ (bytesE r).length := by
    unfold bytesE; split
    · simp
    · exact (encL_length r).1
  unfold elemL
  split
  · simp only [List.length_cons, List.length_nil]; omega
  · split
    · rename_i h1 h2
      have := hs.nonneg r h2
      rw [bytesE, if_neg (by omega)]; omega
    · rename_i h1 h2
      have hk : ¬ (32 ≤ r ∧ r ≤ 126) := fun h => h2 (hs.keeps r h.1 h.2)
      by_cases h0 : r < 0
      · rw [bytesE, if_pos h0, escL_len, if_neg (by omega), if_pos (by omega)]; simp
      · rw [bytesE, if_neg h0, encL_len, escL_len]
        repeat' split
        all_goals omega
theorem flat_len {q : Int} {st : Int → Bool} (hs : OkSt st) : ∀ (es : List Int), (∀ r ∈ es, valE r) → (flatE q st es).length ≤ 4 * (es.flatMap bytesE).length
  | [], _ => by simp [flatE]
  | r :: es, h => by
    have h1 := elem_len (q := q) hs (h r (List.mem_cons_self ..))
    have h2 := flat_len (q := q) hs es fun x hx => h x (List.mem_cons_of_mem _ hx)
    rw [flatE] at h2 ⊢
    rw [List.flatMap_cons, List.flatMap_cons, List.length_append, List.length_append]; omega
theorem quote_len {q : Int} {st : Int → Bool} (hs : OkSt st) (l : List UInt8) : 2 ≤ (quoteL q st (elemsOf l)).length ∧ (quoteL q st (elemsOf l)).length ≤ 4 * l.length + 2 := by
  have := flat_len (q := q) hs (elemsOf l) (elems_val l)
  rw [elems_bytes] at this
  rw [quoteL_eq]
  simp only [List.length_cons, List.length_append, List.length_nil]
  omega
theorem elem_mono {q : Int} {a b : Bool} {r : Int} (hv : valE r) (hb : b = true → 0 ≤ r) (h : a = true → b = true) : (elemL q b r).length ≤ (elemL q a r).length := by
  unfold elemL
  split
  · exact Nat.le_refl _
  · cases a
    · cases b
      · exact Nat.le_refl _
      · have h0 := hb rfl
        have hcp := cp_bounds (hv.resolve_left (by omega))
        rw [if_pos rfl, if_neg (by simp), encL_len, escL_len]
        repeat' split
        all_goals omega
    · rw [h rfl]; exact Nat.le_refl _
theorem flat_mono {q : Int} {s t : Int → Bool} (hb : ∀ r, t r = true → 0 ≤ r) (h : ∀ r, s r = true → t r = true) : ∀ (es : List Int), (∀ r ∈ es, valE r) → (flatE q t es).length ≤ (flatE q s es).length
  | [], _ => by simp [flatE]
  | r :: es, hv => by
    have h1 := elem_mono (q := q) (hv r (List.mem_cons_self ..)) (hb r) (h r)
    have h2 := flat_mono (q := q) hb h es fun x hx => hv x (List.mem_cons_of_mem _ hx)
    rw [flatE] at h2 ⊢
    rw [flatE]
    rw [List.flatMap_cons, List.flatMap_cons, List.length_append, List.length_append]; rw [flatE] at h2; omega
theorem quote_mono {q : Int} {s t : Int → Bool} (hb : ∀ r, t r = true → 0 ≤ r) (h : ∀ r, s r = true → t r = true) (l : List UInt8) : (quoteL q t (elemsOf l)).length ≤ (quoteL q s (elemsOf l)).length := by
  have := flat_mono (q := q) hb h (elemsOf l) (elems_val l)
  rw [quoteL_eq, quoteL_eq]
  simp only [List.length_cons, List.length_append, List.length_nil]
  omega
theorem stP_le (r : Int) (h : stP true r = true) : stP false r = true := by simp [stP] at h ⊢; exact ⟨h.1, h.2.2⟩
theorem stG_ge (r : Int) (h : stP false r = true) : stG r = true := by simp [stP, stG] at h ⊢; exact ⟨h.1, .inl h.2⟩
/-! Plain ASCII. -/
theorem elems_ascii : ∀ (l : List UInt8), (∀ c ∈ l, c.toNat < 128) → elemsOf l = l.map fun c => (c.toNat : Int)
  | [], _ => rfl
  | c :: r, h => by
    have hc := h c (List.mem_cons_self ..)
    rw [elemsOf_cons _ (by simp), dec_1 (c := c) rfl hc]
    simp only [List.drop_succ_cons, List.drop_zero, List.map_cons]
    rw [elems_ascii r fun x hx => h x (List.mem_cons_of_mem _ hx)]
theorem flat_plain {st : Int → Bool} (hst : ∀ r : Int, 32 ≤ r → r ≤ 126 → st r = true) : ∀ (l : List UInt8), (∀ c ∈ l, 32 ≤ c.toNat ∧ c.toNat ≤ 126 ∧ c.toNat ≠ 34 ∧ c.toNat ≠ 92) → flatE 34 st (l.map fun c => (c.toNat : Int)) = l
  | [], _ => rfl
  | c :: r, h => by
    obtain ⟨h1, h2, h3, h4⟩ := h c (List.mem_cons_self ..)
    have ih := flat_plain hst r fun x hx => h x (List.mem_cons_of_mem _ hx)
    rw [flatE] at ih ⊢
    rw [List.map_cons, List.flatMap_cons, ih, elemL, if_neg (by omega), if_pos (hst _ (by omega) (by omega)), encL_small (by omega), byteZ_nat]; rfl
theorem quote_plain {st : Int → Bool} (hst : ∀ r : Int, 32 ≤ r → r ≤ 126 → st r = true) {l : List UInt8} (h : ∀ c ∈ l, 32 ≤ c.toNat ∧ c.toNat ≤ 126 ∧ c.toNat ≠ 34 ∧ c.toNat ≠ 92) : quoteL 34 st (elemsOf l) = 34 :: (l ++ [34]) := by
  rw [elems_ascii l fun c hc => by have := h c hc; omega, quoteL_eq, flat_plain hst l h]; rfl
/-! Two texts have no quoted form in common. -/
def unhex (c : UInt8) : Nat := if c.toNat < 58 then c.toNat - 48 else c.toNat - 87
theorem unhex_fin : ∀ x : Fin 16, unhex (hexB x.val) = x.val := by decide +kernel
theorem unhex_hexB {x : Nat} (h : x < 16) : unhex (hexB x) = x := unhex_fin ⟨x, h⟩
def unhexL : List UInt8 → Nat → Nat
  | [], n => n
  | c :: r, n => unhexL r (n * 16 + unhex c)
theorem unhexL_hexL (n : Nat) : ∀ (k m : Nat), unhexL (hexL n k) m = m * 16 ^ k + n % 16 ^ k
  | 0, m => by simp [hexL, unhexL]; omega
  | k + 1, m => by
    rw [hexL, unhexL, unhex_hexB (Nat.mod_lt _ (by omega)), unhexL_hexL n k, Nat.pow_succ, Nat.add_mul, Nat.mul_assoc, Nat.mul_comm 16 (16 ^ k), Nat.mod_mul]
    rw [Nat.mul_comm (n / 16 ^ k % 16)]; omega
/-- the first element of what stands between double quotes -/
def unE (l : List UInt8) : Int :=
  if l[0]? = some 92 then
    if l[1]? = some 34 then 34 else if l[1]? = some 92 then 92
    else if l[1]? = some 97 then 7 else if l[1]? = some 98 then 8 else if l[1]? = some 102 then 12 else if l[1]? = some 110 then 10
    else if l[1]? = some 114 then 13 else if l[1]? = some 116 then 9 else if l[1]? = some 118 then 11
    else if l[1]? = some 120 then (if unhexL ((l.drop 2).take 2) 0 < 128 then (unhexL ((l.drop 2).take 2) 0 : Int) else -1 - (unhexL ((l.drop 2).take 2) 0 : Int))
    else if l[1]? = some 117 then (unhexL ((l.drop 2).take 4) 0 : Int) else (unhexL ((l.drop 2).take 8) 0 : Int)
  else (stepL l).1
theorem take_hexL (n k : Nat) (x : List UInt8) : (hexL n k ++ x).take k = hexL n k := by
  have := hexL_length n k
  rw [List.take_append_of_le_length (by omega), List.take_of_length_le (by omega)]
theorem unE_elem {st : Int → Bool} (hs : OkSt st) {r : Int} (hv : valE r) (x : List UInt8) : unE (elemL 34 (st r) r ++ x) = r := by
  unfold elemL
  by_cases hq : r = 34 ∨ r = 92
  · rw [if_pos hq]
    rcases hq with rfl | rfl
    · rfl
    · rfl
  · rw [if_neg hq]
    cases hst : st r
    · rw [if_neg (by simp)]
      by_cases a1 : r = 7
      · subst a1; rfl
      by_cases a2 : r = 8
      · subst a2; rfl
      by_cases a3 : r = 12
      · subst a3; rfl
      by_cases a4 : r = 10
      · subst a4; rfl
      by_cases a5 : r = 13
      · subst a5; rfl
      by_cases a6 : r = 9
      · subst a6; rfl
      by_cases a7 : r = 11
      · subst a7; rfl
      rw [escL, if_neg a1, if_neg a2, if_neg a3, if_neg a4, if_neg a5, if_neg a6, if_neg a7]
      by_cases h0 : r < 0
      · have h129 : -256 ≤ r ∧ r ≤ -129 := by
          rcases hv with h | h
          · exact h
          · have := cp_bounds h; omega
        rw [if_pos h0]
        have e : unE (92 :: 120 :: hexL (-1 - r).toNat 2 ++ x) = if unhexL ((hexL (-1 - r).toNat 2 ++ x).take 2) 0 < 128 then (unhexL ((hexL (-1 - r).toNat 2 ++ x).take 2) 0 : Int) else -1 - (unhexL ((hexL (-1 - r).toNat 2 ++ x).take 2) 0 : Int) := rfl
        rw [e, take_hexL, unhexL_hexL, if_neg (by omega)]
        omega
      · have hcp := cp_bounds (hv.resolve_left (by omega))
        rw [if_neg h0]
        by_cases h1 : r < 32 ∨ r = 127
        · rw [if_pos h1]
          have e : unE (92 :: 120 :: hexL r.toNat 2 ++ x) = if unhexL ((hexL r.toNat 2 ++ x).take 2) 0 < 128 then (unhexL ((hexL r.toNat 2 ++ x).take 2) 0 : Int) else -1 - (unhexL ((hexL r.toNat 2 ++ x).take 2) 0 : Int) := rfl
          rw [e, take_hexL, unhexL_hexL, if_pos (by omega)]
          omega
        · rw [if_neg h1]
          by_cases h2 : r < 65536
          · rw [if_pos h2]
            have e : unE (92 :: 117 :: hexL r.toNat 4 ++ x) = (unhexL ((hexL r.toNat 4 ++ x).take 4) 0 : Int) := rfl
            rw [e, take_hexL, unhexL_hexL]
            omega
          · rw [if_neg h2]
            have e : unE (92 :: 85 :: hexL r.toNat 8 ++ x) = (unhexL ((hexL r.toNat 8 ++ x).take 8) 0 : Int) := rfl
            rw [e, take_hexL, unhexL_hexL]
            omega
    · rw [if_pos rfl]
      have h0 := hs.nonneg r hst
      have hcp : isCP r = true := hv.resolve_left (by omega)
      have hne : (encL r ++ x)[0]? ≠ some 92 := by
        rw [List.getElem?_append_left (List.length_pos_iff.2 (encL_ne r))]
        intro h
        by_cases h1 : r < 128
        · rw [encL_small h1] at h
          have e : byteZ r = 92 := by simpa using h
          have e2 := byteZ_toNat (r := r) h0 (by omega)
          rw [e] at e2
          have : ((92 : UInt8).toNat : Int) = 92 := rfl
          omega
        · have := encL_big hcp h1 92 (List.mem_of_getElem? h)
          exact absurd this (by decide)
      rw [unE, if_neg hne, step_enc hcp]
theorem elem_ne {q : Int} {st : Bool} {r : Int} : elemL q st r ≠ [] := fun h => by have := (elemL_length q st r).1; rw [h] at this; simp at this
theorem flat_inj {st : Int → Bool} (hs : OkSt st) : ∀ (a b : List Int), (∀ r ∈ a, valE r) → (∀ r ∈ b, valE r) → flatE 34 st a = flatE 34 st b → a = b
  | [], [], _, _, _ => rfl
  | [], r :: b, _, _, h => by
    rw [flatE, flatE, List.flatMap_nil, List.flatMap_cons] at h
    exact absurd (List.append_eq_nil_iff.1 h.symm).1 elem_ne
  | r :: a, [], _, _, h => by
    rw [flatE, flatE, List.flatMap_nil, List.flatMap_cons] at h
    exact absurd (List.append_eq_nil_iff.1 h).1 elem_ne
  | r :: a, t :: b, ha, hb, h => by
    rw [flatE, flatE, List.flatMap_cons, List.flatMap_cons] at h
    have e1 := unE_elem hs (ha r (List.mem_cons_self ..)) (a.flatMap fun r => elemL 34 (st r) r)
    rw [h, unE_elem hs (hb t (List.mem_cons_self ..))] at e1
    subst e1
    rw [flat_inj hs a b (fun x hx => ha x (List.mem_cons_of_mem _ hx)) (fun x hx => hb x (List.mem_cons_of_mem _ hx)) (List.append_cancel_left h)]
theorem quote_apart {st : Int → Bool} (hs : OkSt st) (a b : List UInt8) : quoteL 34 st (elemsOf a) = quoteL 34 st (elemsOf b) ↔ a = b := by
  constructor
  · intro h
    rw [quoteL_eq, quoteL_eq] at h
    have h1 := List.append_cancel_right (List.cons.inj h).2
    have h2 := flat_inj hs _ _ (elems_val a) (elems_val b) h1
    rw [← elems_bytes a, h2, elems_bytes]
  · rintro rfl; rfl
/-! Parts. -/
theorem flat_append (q : Int) (st : Int → Bool) (a b : List Int) : flatE q st (a ++ b) = flatE q st a ++ flatE q st b := by simp [flatE]
theorem inner_quote (q : Int) (st : Int → Bool) (es : List Int) : ((quoteL q st es).drop 1).take ((quoteL q st es).length - 2) = flatE q st es := by
  rw [quoteL_eq]
  simp
end Go.Proofs.YthbnglkpkgpojaaDoor
