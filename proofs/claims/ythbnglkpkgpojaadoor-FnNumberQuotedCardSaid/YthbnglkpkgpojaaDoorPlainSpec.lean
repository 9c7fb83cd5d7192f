/-
  Plain: how the reference reads a number without a sign, and that the library reads it so, where the reference tells. No program in sight.
-/
import Derived.Test.YthbnglkpkgpojaaDoorPlainRoundI
import Derived.Test.YthbnglkpkgpojaaDoorPlainDigit
namespace Go.Proofs.YthbnglkpkgpojaaDoor
open Go.RowKit
/-- the base, the digits, whether underscores may stand in them, whether one may stand before them, and whether the prefix has a capital letter -/
structure BaseR where
  b : Nat
  t : List UInt8
  may : Bool
  before : Bool
  cap : Bool
def specBase (l : List UInt8) (base : Nat) : BaseR :=
  if base ≠ 0 then ⟨base, l, false, false, false⟩
  else if l.length < 2 ∨ l[0]? ≠ some 48 then ⟨10, l, true, false, false⟩
  else if l[1]? = some 98 then ⟨2, l.drop 2, true, true, false⟩
  else if l[1]? = some 111 then ⟨8, l.drop 2, true, true, false⟩
  else if l[1]? = some 120 then ⟨16, l.drop 2, true, true, false⟩
  else if l[1]? = some 66 ∨ l[1]? = some 79 ∨ l[1]? = some 88 then ⟨16, l.drop 2, true, true, true⟩
  else ⟨8, l.drop 1, true, true, false⟩
/-- digits without underscores -/
def noU (l : List UInt8) : List UInt8 := l.filter fun c => c != 95
def nextOK : List UInt8 → Bool
  | [] => false
  | d :: _ => d != 95
/-- each underscore stands between two digits, or before the first one -/
def rightB : Bool → List UInt8 → Bool
  | _, [] => true
  | bf, c :: r => if c = 95 then (nextOK r && bf && rightB true r) else rightB true r
/-- the digits before the first byte that is none -/
def digP (b : Nat) : List UInt8 → List UInt8
  | [] => []
  | c :: r => if digN c < b then c :: digP b r else []
def allD (b : Nat) (l : List UInt8) : Bool := l.all fun c => decide (digN c < b)
def capD (c : UInt8) : Bool := decide (65 ≤ c.toNat) && decide (c.toNat ≤ 90)
structure ReadR where
  good : Bool
  op : Bool
  v : Nat
def readDig (B : BaseR) : List UInt8 := if B.may = true then noU B.t else B.t
def specRead (l : List UInt8) (base : Nat) : ReadR :=
  let B := specBase l base
  let D := readDig B
  ⟨(!B.may || rightB B.before B.t) && !D.isEmpty && allD B.b D, B.cap || (digP B.b D).any capD, foldV B.b (digP B.b D) 0⟩
theorem digP_all {b : Nat} : ∀ {l : List UInt8}, allD b l = true → digP b l = l
  | [], _ => rfl
  | c :: r, h => by
    simp only [allD, List.all_cons, Bool.and_eq_true, decide_eq_true_eq] at h
    rw [digP, if_pos h.1, digP_all (l := r) (by simpa [allD] using h.2)]
def stripU (b0 : Bool) (t : List UInt8) : List UInt8 := if b0 = true then noU t else t
theorem stripU_skip (r : List UInt8) : stripU true (95 :: r) = stripU true r := by simp [stripU, noU]
theorem stripU_keep {b0 : Bool} {c : UInt8} (h : ¬ (c = 95 ∧ b0 = true)) (r : List UInt8) : stripU b0 (c :: r) = c :: stripU b0 r := by
  cases b0
  · rfl
  · have hc : c ≠ 95 := fun e => h ⟨e, rfl⟩
    simp [stripU, noU, hc]
theorem allD_cons (b : Nat) (c : UInt8) (r : List UInt8) : allD b (c :: r) = (decide (digN c < b) && allD b r) := by simp [allD]
/-- what scanning comes to -/
theorem scan_char {b mx : Nat} {b0 : Bool} (h1 : 1 ≤ b) : ∀ (t : List UInt8) (n : Nat) (u : Bool), n ≤ mx →
    scan b mx b0 t n u = if mx < foldV b (digP b (stripU b0 t)) n then .rng else if allD b (stripU b0 t) = false then .syn else .ok (foldV b (stripU b0 t) n) (u || (b0 && decide (95 ∈ t)))
  | [], n, u, hn => by
    have e : stripU b0 [] = [] := by cases b0 <;> rfl
    rw [scan, e]
    have e2 : allD b [] = true := rfl
    rw [digP, foldV, if_neg (by omega), e2, if_neg (by simp)]
    simp
  | c :: r, n, u, hn => by
    by_cases hc : c = 95 ∧ b0 = true
    · obtain ⟨rfl, rfl⟩ := hc
      rw [scan, if_pos ⟨rfl, rfl⟩, scan_char h1 r n true hn, stripU_skip]
      simp
    · rw [scan, if_neg hc, stripU_keep hc, digP, allD_cons]
      by_cases hd : digN c < b
      · rw [if_neg (by omega), if_pos hd, foldV, foldV]
        have e95 : (b0 && decide (95 ∈ c :: r)) = (b0 && decide (95 ∈ r)) := by
          cases b0
          · rfl
          · have hc' : c ≠ 95 := fun e => hc ⟨e, rfl⟩
            simp [Ne.symm hc']
        rw [e95]
        by_cases hm : mx < n * b + digN c
        · rw [if_pos hm, if_pos (by have := foldV_mono h1 (digP b (stripU b0 r)) (n * b + digN c); omega)]
        · rw [if_neg hm, scan_char h1 r _ u (by omega)]
          simp [hd]
      · rw [if_pos (by omega), if_neg hd, foldV, if_neg (by omega)]
        simp [hd]
/-- a digit as underscoreOK has it -/
def digU (x : Bool) (c : UInt8) : Prop := (48 ≤ c.toNat ∧ c.toNat ≤ 57) ∨ (x = true ∧ 97 ≤ lowN c ∧ lowN c ≤ 102)
theorem uScan_right {x : Bool} : ∀ (t : List UInt8), (∀ c ∈ t, c = 95 ∨ digU x c) →
    uScan x t 1 = rightB true t ∧ (uScan x t 2 = (nextOK t && rightB true t)) ∧ uScan x t 0 = rightB false t
  | [], _ => ⟨rfl, rfl, rfl⟩
  | c :: r, h => by
    obtain ⟨ihA, ihB, ihC⟩ := uScan_right r fun y hy => h y (List.mem_cons_of_mem _ hy)
    by_cases hc : c = 95
    · subst hc
      have hnd : ¬ ((48 ≤ (95 : UInt8).toNat ∧ (95 : UInt8).toNat ≤ 57) ∨ (x = true ∧ 97 ≤ lowN 95 ∧ lowN 95 ≤ 102)) := by
        have e1 : (95 : UInt8).toNat = 95 := rfl
        have e2 : lowN 95 = 127 := by decide
        omega
      refine ⟨?_, ?_, ?_⟩
      · rw [uScan, if_neg hnd, if_pos rfl, if_pos rfl, ihB, rightB, if_pos rfl]; simp
      · rw [uScan, if_neg hnd, if_pos rfl, if_neg (by decide)]; simp [nextOK]
      · rw [uScan, if_neg hnd, if_pos rfl, if_neg (by decide), rightB, if_pos rfl]; simp
    · have hd : (48 ≤ c.toNat ∧ c.toNat ≤ 57) ∨ (x = true ∧ 97 ≤ lowN c ∧ lowN c ≤ 102) := (h c (List.mem_cons_self ..)).resolve_left hc
      refine ⟨?_, ?_, ?_⟩
      · rw [uScan, if_pos hd, ihA, rightB, if_neg hc]
      · rw [uScan, if_pos hd, ihA, rightB, if_neg hc]; simp [nextOK, hc]
      · rw [uScan, if_pos hd, ihA, rightB, if_neg hc]
theorem rightB_none : ∀ (bf : Bool) (t : List UInt8), 95 ∉ t → rightB bf t = true
  | _, [], _ => rfl
  | bf, c :: r, h => by
    have hc : ¬ c = 95 := fun e => h (by rw [e]; exact List.mem_cons_self ..)
    rw [rightB, if_neg hc, rightB_none true r fun hr => h (List.mem_cons_of_mem _ hr)]
end Go.Proofs.YthbnglkpkgpojaaDoor
