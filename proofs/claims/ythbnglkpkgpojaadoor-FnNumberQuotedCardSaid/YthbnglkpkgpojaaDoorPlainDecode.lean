/-
  Plain: the first element of a text, case by case. No program in sight.
-/
import Derived.Test.YthbnglkpkgpojaaDoorPlainQuote
namespace Go.Proofs.YthbnglkpkgpojaaDoor
open Go.Lib
set_option linter.unusedVariables false
theorem getD_at {l : List UInt8} {i : Nat} {c : UInt8} (h : l[i]? = some c) : l.getD i 0 = c := by rw [List.getD_eq_getElem?_getD, h]; rfl
theorem stepL_bad {l : List UInt8} {c : UInt8} (h0 : l[0]? = some c) (h : ∀ b1 b2 b3, l.getD 1 0 = b1 → l.getD 2 0 = b2 → l.getD 3 0 = b3 → decodeN l.length c.toNat b1.toNat b2.toNat b3.toNat = (65533, 1)) : stepL l = (-1 - (c.toNat : Int), 1) := by
  have := h _ _ _ rfl rfl rfl
  unfold stepL
  rw [getD_at h0, this]
  simp
theorem stepL_ok {l : List UInt8} {c : UInt8} {r k : Nat} (h0 : l[0]? = some c) (h : ∀ b1 b2 b3, l.getD 1 0 = b1 → l.getD 2 0 = b2 → l.getD 3 0 = b3 → decodeN l.length c.toNat b1.toNat b2.toNat b3.toNat = (r, k)) (hk : ¬ (k = 1 ∧ r = 65533)) : stepL l = ((r : Int), k) := by
  have := h _ _ _ rfl rfl rfl
  unfold stepL
  rw [getD_at h0, this]
  simp only
  rw [if_neg hk]
theorem dec_1 {l : List UInt8} {c : UInt8} (h0 : l[0]? = some c) (h : c.toNat < 128) : stepL l = ((c.toNat : Int), 1) :=
  stepL_ok h0 (fun b1 b2 b3 _ _ _ => by unfold decodeN; rw [if_pos h]) (by omega)
theorem dec_bad0 {l : List UInt8} {c : UInt8} (h0 : l[0]? = some c) (h : (128 ≤ c.toNat ∧ c.toNat < 192) ∨ 248 ≤ c.toNat) : stepL l = (-1 - (c.toNat : Int), 1) :=
  stepL_bad h0 fun b1 b2 b3 _ _ _ => by
    have := c.toNat_lt
    unfold decodeN
    repeat' split
    all_goals first | rfl | (exfalso; omega)
theorem dec_short {l : List UInt8} {c : UInt8} (h0 : l[0]? = some c) (h : (192 ≤ c.toNat ∧ l.length < 2) ∨ (224 ≤ c.toNat ∧ l.length < 3) ∨ (240 ≤ c.toNat ∧ l.length < 4)) : stepL l = (-1 - (c.toNat : Int), 1) :=
  stepL_bad h0 fun b1 b2 b3 _ _ _ => by
    have := c.toNat_lt
    unfold decodeN
    repeat' split
    all_goals first | rfl | (exfalso; omega)
theorem dec_c1 {l : List UInt8} {c c1 : UInt8} (h0 : l[0]? = some c) (h1 : l[1]? = some c1) (h : 192 ≤ c.toNat) (hb : c1.toNat < 128 ∨ 192 ≤ c1.toNat) : stepL l = (-1 - (c.toNat : Int), 1) :=
  stepL_bad h0 fun b1 b2 b3 e1 _ _ => by
    rw [getD_at h1] at e1
    subst e1
    have := c.toNat_lt
    unfold decodeN
    repeat' split
    all_goals first | rfl | (exfalso; omega)
theorem dec_c2 {l : List UInt8} {c c2 : UInt8} (h0 : l[0]? = some c) (h2 : l[2]? = some c2) (h : 224 ≤ c.toNat) (hb : c2.toNat < 128 ∨ 192 ≤ c2.toNat) : stepL l = (-1 - (c.toNat : Int), 1) :=
  stepL_bad h0 fun b1 b2 b3 _ e2 _ => by
    rw [getD_at h2] at e2
    subst e2
    have := c.toNat_lt
    unfold decodeN
    repeat' split
    all_goals first | rfl | (exfalso; omega)
theorem dec_c3 {l : List UInt8} {c c3 : UInt8} (h0 : l[0]? = some c) (h3 : l[3]? = some c3) (h : 240 ≤ c.toNat) (hb : c3.toNat < 128 ∨ 192 ≤ c3.toNat) : stepL l = (-1 - (c.toNat : Int), 1) :=
  stepL_bad h0 fun b1 b2 b3 _ _ e3 => by
    rw [getD_at h3] at e3
    subst e3
    have := c.toNat_lt
    unfold decodeN
    repeat' split
    all_goals first | rfl | (exfalso; omega)
theorem len_of {l : List UInt8} {i : Nat} {c : UInt8} (h : l[i]? = some c) : i < l.length := (List.getElem?_eq_some_iff.1 h).1
theorem dec_2 {l : List UInt8} {c c1 : UInt8} (h0 : l[0]? = some c) (h1 : l[1]? = some c1) (h : 192 ≤ c.toNat ∧ c.toNat < 224) (hb : 128 ≤ c1.toNat ∧ c1.toNat < 192) :
    stepL l = if 128 ≤ (c.toNat - 192) * 64 + (c1.toNat - 128) then ((((c.toNat - 192) * 64 + (c1.toNat - 128) : Nat) : Int), 2) else (-1 - (c.toNat : Int), 1) := by
  have hl := len_of h1
  split
  · refine stepL_ok h0 (fun b1 b2 b3 e1 _ _ => ?_) (by omega)
    rw [getD_at h1] at e1
    subst e1
    unfold decodeN
    repeat' split
    all_goals first | (exfalso; omega) | (refine Prod.ext ?_ rfl; simp only; omega)
  · refine stepL_bad h0 fun b1 b2 b3 e1 _ _ => ?_
    rw [getD_at h1] at e1
    subst e1
    unfold decodeN
    repeat' split
    all_goals first | rfl | (exfalso; omega)
theorem dec_3 {l : List UInt8} {c c1 c2 : UInt8} (h0 : l[0]? = some c) (h1 : l[1]? = some c1) (h2 : l[2]? = some c2) (h : 224 ≤ c.toNat ∧ c.toNat < 240) (hb : 128 ≤ c1.toNat ∧ c1.toNat < 192) (hb2 : 128 ≤ c2.toNat ∧ c2.toNat < 192) :
    stepL l = if 2048 ≤ ((c.toNat - 224) * 64 + (c1.toNat - 128)) * 64 + (c2.toNat - 128) ∧ (((c.toNat - 224) * 64 + (c1.toNat - 128)) * 64 + (c2.toNat - 128) < 55296 ∨ 57344 ≤ ((c.toNat - 224) * 64 + (c1.toNat - 128)) * 64 + (c2.toNat - 128)) then ((((( c.toNat - 224) * 64 + (c1.toNat - 128)) * 64 + (c2.toNat - 128) : Nat) : Int), 3) else (-1 - (c.toNat : Int), 1) := by
  have hl := len_of h2
  split
  · refine stepL_ok h0 (fun b1 b2 b3 e1 e2 _ => ?_) (by omega)
    rw [getD_at h1] at e1
    rw [getD_at h2] at e2
    subst e1 e2
    unfold decodeN
    repeat' split
    all_goals first | (exfalso; omega) | (refine Prod.ext ?_ rfl; simp only; omega)
  · refine stepL_bad h0 fun b1 b2 b3 e1 e2 _ => ?_
    rw [getD_at h1] at e1
    rw [getD_at h2] at e2
    subst e1 e2
    unfold decodeN
    repeat' split
    all_goals first | rfl | (exfalso; omega)
theorem dec_4 {l : List UInt8} {c c1 c2 c3 : UInt8} (h0 : l[0]? = some c) (h1 : l[1]? = some c1) (h2 : l[2]? = some c2) (h3 : l[3]? = some c3) (h : 240 ≤ c.toNat ∧ c.toNat < 248) (hb : 128 ≤ c1.toNat ∧ c1.toNat < 192) (hb2 : 128 ≤ c2.toNat ∧ c2.toNat < 192) (hb3 : 128 ≤ c3.toNat ∧ c3.toNat < 192) :
    stepL l = if 65536 ≤ (((c.toNat - 240) * 64 + (c1.toNat - 128)) * 64 + (c2.toNat - 128)) * 64 + (c3.toNat - 128) ∧ (((c.toNat - 240) * 64 + (c1.toNat - 128)) * 64 + (c2.toNat - 128)) * 64 + (c3.toNat - 128) ≤ 1114111 then ((((((c.toNat - 240) * 64 + (c1.toNat - 128)) * 64 + (c2.toNat - 128)) * 64 + (c3.toNat - 128) : Nat) : Int), 4) else (-1 - (c.toNat : Int), 1) := by
  have hl := len_of h3
  split
  · refine stepL_ok h0 (fun b1 b2 b3 e1 e2 e3 => ?_) (by omega)
    rw [getD_at h1] at e1
    rw [getD_at h2] at e2
    rw [getD_at h3] at e3
    subst e1 e2 e3
    unfold decodeN
    repeat' split
    all_goals first | (exfalso; omega) | (refine Prod.ext ?_ rfl; simp only; omega)
  · refine stepL_bad h0 fun b1 b2 b3 e1 e2 e3 => ?_
    rw [getD_at h1] at e1
    rw [getD_at h2] at e2
    rw [getD_at h3] at e3
    subst e1 e2 e3
    unfold decodeN
    repeat' split
    all_goals first | rfl | (exfalso; omega)
theorem encL_len (r : Int) : (encL r).length = if r < 128 then 1 else if r < 2048 then 2 else if r < 65536 then 3 else 4 := by
  unfold encL
  repeat' split
  all_goals rfl
end Go.Proofs.YthbnglkpkgpojaaDoor
