/-
  Plain: how the library reads a number. No program in sight.
-/
import Derived.Test.YthbnglkpkgpojaaDoorPlainBases
namespace Go.Proofs.YthbnglkpkgpojaaDoor
open Go.RowKit
/-- how the digits end -/
inductive ScanR where
  | syn : ScanR
  | rng : ScanR
  | ok (n : Nat) (u : Bool) : ScanR
/-- the digits one behind the other: n so far, u: an underscore was seen; b0: underscores may stand there -/
def scan (b mx : Nat) (b0 : Bool) : List UInt8 → Nat → Bool → ScanR
  | [], n, u => .ok n u
  | c :: r, n, u => if c = 95 ∧ b0 = true then scan b mx b0 r n true else if b ≤ digN c then .syn else if mx < n * b + digN c then .rng else scan b mx b0 r (n * b + digN c) u
/-- a byte with the bit of the small letters set -/
def lowN (c : UInt8) : Nat := c.toNat ||| 32
theorem low_fin : ∀ c : Fin 256, (bits BinOp.or IntKind.u8 ((c.val : Nat) : Int) 32 = ((c.val ||| 32 : Nat) : Int)) ∧ (c.val ||| 32 < 256) ∧ (97 ≤ c.val ||| 32 ∧ c.val ||| 32 ≤ 122 ↔ (97 ≤ c.val ∧ c.val ≤ 122) ∨ (65 ≤ c.val ∧ c.val ≤ 90)) ∧ (65 ≤ c.val → c.val ≤ 90 → c.val ||| 32 = c.val + 32) ∧ (97 ≤ c.val → c.val ≤ 122 → c.val ||| 32 = c.val) := by decide +kernel
theorem lowN_facts (c : UInt8) : (bits BinOp.or IntKind.u8 (c.toNat : Int) 32 = (lowN c : Int)) ∧ lowN c < 256 ∧ (97 ≤ lowN c ∧ lowN c ≤ 122 ↔ (97 ≤ c.toNat ∧ c.toNat ≤ 122) ∨ (65 ≤ c.toNat ∧ c.toNat ≤ 90)) ∧ (65 ≤ c.toNat → c.toNat ≤ 90 → lowN c = c.toNat + 32) ∧ (97 ≤ c.toNat → c.toNat ≤ 122 → lowN c = c.toNat) := low_fin ⟨c.toNat, c.toNat_lt⟩
theorem digN_letter {c : UInt8} (h1 : 97 ≤ lowN c) (h2 : lowN c ≤ 122) : digN c + 87 = lowN c := by
  obtain ⟨_, _, h3, h4, h5⟩ := lowN_facts c
  unfold digN
  rcases h3.1 ⟨h1, h2⟩ with ⟨a, b⟩ | ⟨a, b⟩
  · rw [if_neg (by omega), if_pos ⟨a, b⟩, h5 a b]; omega
  · rw [if_neg (by omega), if_neg (by omega), if_pos ⟨a, b⟩, h4 a b]; omega
theorem digN_nodigit {c : UInt8} (h1 : ¬ (48 ≤ c.toNat ∧ c.toNat ≤ 57)) (h2 : ¬ (97 ≤ lowN c ∧ lowN c ≤ 122)) : digN c = 99 := by
  obtain ⟨_, _, h3, _, _⟩ := lowN_facts c
  rw [h3] at h2
  unfold digN
  rw [if_neg h1, if_neg (by omega), if_neg (by omega)]
theorem digN_number {c : UInt8} (h1 : 48 ≤ c.toNat) (h2 : c.toNat ≤ 57) : digN c = c.toNat - 48 := by unfold digN; rw [if_pos ⟨h1, h2⟩]
theorem digN_le (c : UInt8) : digN c ≤ 99 := by
  unfold digN; repeat' split
  all_goals omega
/-- the base and the digits of a text without a sign -/
def pre (l : List UInt8) (base : Nat) : Nat × List UInt8 :=
  if base ≠ 0 then (base, l)
  else if l[0]? ≠ some 48 then (10, l)
  else if 3 ≤ l.length ∧ l[1]?.map lowN = some 98 then (2, l.drop 2)
  else if 3 ≤ l.length ∧ l[1]?.map lowN = some 111 then (8, l.drop 2)
  else if 3 ≤ l.length ∧ l[1]?.map lowN = some 120 then (16, l.drop 2)
  else (8, l.drop 1)
theorem pre_base (l : List UInt8) (base : Nat) (h : base = 0 ∨ 2 ≤ base ∧ base ≤ 36) : 2 ≤ (pre l base).1 ∧ (pre l base).1 ≤ 36 := by
  unfold pre
  repeat' split
  all_goals (simp only; omega)
/-- where underscores may stand: the states of underscoreOK: 0 at the beginning, 1 behind a digit or prefix, 2 behind an underscore, 3 behind anything else -/
def uScan (hex : Bool) : List UInt8 → Nat → Bool
  | [], s => s != 2
  | c :: r, s =>
    if (48 ≤ c.toNat ∧ c.toNat ≤ 57) ∨ (hex = true ∧ 97 ≤ lowN c ∧ lowN c ≤ 102) then uScan hex r 1
    else if c = 95 then (if s = 1 then uScan hex r 2 else false)
    else if s = 2 then false else uScan hex r 3
def noSign (l : List UInt8) : List UInt8 := if l[0]? = some 45 ∨ l[0]? = some 43 then l.drop 1 else l
def uOKn (l : List UInt8) : Bool :=
  if 2 ≤ l.length ∧ l[0]? = some 48 ∧ (l[1]?.map lowN = some 98 ∨ l[1]?.map lowN = some 111 ∨ l[1]?.map lowN = some 120) then uScan (l[1]?.map lowN == some 120) (l.drop 2) 1 else uScan false l 0
def uOK (l : List UInt8) : Bool := uOKn (noSign l)
/-- the number and the error's number (0: none) of a text without a sign -/
def resOf (l : List UInt8) (mx : Nat) : ScanR → Nat × Nat
  | .syn => (0, 2)
  | .rng => (mx, 1)
  | .ok n u => if u = true ∧ uOK l = false then (0, 2) else (n, 0)
def pUb (l : List UInt8) (base bits : Nat) : Nat × Nat :=
  resOf l (2 ^ (if bits = 0 then 64 else bits) - 1) (scan (pre l base).1 (2 ^ (if bits = 0 then 64 else bits) - 1) (base == 0) (pre l base).2 0 false)
/-- the same, the empty text too -/
def pUe (l : List UInt8) (base bits : Nat) : Nat × Nat := if l = [] then (0, 2) else pUb l base bits
theorem resOf_code (l : List UInt8) (mx : Nat) (r : ScanR) : (resOf l mx r).2 = 0 ∨ (resOf l mx r).2 = 1 ∨ (resOf l mx r).2 = 2 := by
  unfold resOf; split
  · exact .inr (.inr rfl)
  · exact .inr (.inl rfl)
  · split
    · exact .inr (.inr rfl)
    · exact .inl rfl
theorem pUe_code (l : List UInt8) (base bits : Nat) : (pUe l base bits).2 = 0 ∨ (pUe l base bits).2 = 1 ∨ (pUe l base bits).2 = 2 := by
  unfold pUe; split
  · exact .inr (.inr rfl)
  · exact resOf_code _ _ _
theorem scan_le {b mx : Nat} {b0 : Bool} : ∀ (l : List UInt8) (n : Nat) (u : Bool) (m : Nat) (v : Bool), n ≤ mx → scan b mx b0 l n u = .ok m v → m ≤ mx
  | [], n, u, m, v, hn, h => by rw [scan] at h; injection h with h1 h2; omega
  | c :: r, n, u, m, v, hn, h => by
    rw [scan] at h
    split at h
    · exact scan_le r n true m v hn h
    · split at h
      · cases h
      · split at h
        · cases h
        · exact scan_le r _ u m v (by omega) h
theorem pUe_le (l : List UInt8) (base bits : Nat) : (pUe l base bits).1 ≤ 2 ^ (if bits = 0 then 64 else bits) - 1 := by
  unfold pUe; split
  · exact Nat.zero_le _
  · unfold pUb
    generalize hs : scan _ _ _ _ _ _ = r
    cases r with
    | syn => exact Nat.zero_le _
    | rng => exact Nat.le_refl _
    | ok n u =>
      simp only [resOf]
      split
      · exact Nat.zero_le _
      · exact scan_le _ 0 false n u (Nat.zero_le _) hs
/-- the number and the error's number of a text with a sign -/
def pIb (l : List UInt8) (base bits : Nat) : Int × Nat :=
  if (pUe (noSign l) base bits).2 = 2 then (0, 2)
  else if ¬ l[0]? = some 45 ∧ 2 ^ ((if bits = 0 then 64 else bits) - 1) ≤ (pUe (noSign l) base bits).1 then (((2 ^ ((if bits = 0 then 64 else bits) - 1) : Nat) : Int) - 1, 1)
  else if l[0]? = some 45 ∧ 2 ^ ((if bits = 0 then 64 else bits) - 1) < (pUe (noSign l) base bits).1 then (-((2 ^ ((if bits = 0 then 64 else bits) - 1) : Nat) : Int), 1)
  else (if l[0]? = some 45 then -((pUe (noSign l) base bits).1 : Int) else ((pUe (noSign l) base bits).1 : Int), 0)
def pIe (l : List UInt8) (base bits : Nat) : Int × Nat := if l = [] then (0, 2) else pIb l base bits
def pU (l : List UInt8) (base bits : Int) : Nat × Nat :=
  if l = [] then (0, 2)
  else if ¬ (base = 0 ∨ 2 ≤ base ∧ base ≤ 36) then (0, 3)
  else if bits < 0 ∨ 64 < bits then (0, 4)
  else pUb l base.toNat bits.toNat
end Go.Proofs.YthbnglkpkgpojaaDoor
