/-
  Plain: what the quoting functions write, element by element, as lists of bytes; the elements of a text. No program in sight.
-/
import Derived.Lib.QuoteLoop
import Derived.Test.YthbnglkpkgpojaaDoorPlainClass
namespace Go.Proofs.YthbnglkpkgpojaaDoor
open Go.Lib

def byteZ (r : Int) : UInt8 := UInt8.ofNat r.toNat
theorem byteZ_toNat {r : Int} (h0 : 0 ≤ r) (h1 : r ≤ 255) : ((byteZ r).toNat : Int) = r := by
  unfold byteZ
  rw [UInt8.toNat_ofNat']
  omega
/-- a digit of base 16 -/
def hexB (x : Nat) : UInt8 := if x < 10 then UInt8.ofNat (48 + x) else UInt8.ofNat (87 + x)
theorem hexB_toNat {x : Nat} (h : x < 16) : ((hexB x).toNat : Int) = hexDigit x := by
  unfold hexB hexDigit
  split
  · rw [UInt8.toNat_ofNat']; omega
  · rw [UInt8.toNat_ofNat']; omega
/-- k digits of base 16 -/
def hexL (n : Nat) : Nat → List UInt8
  | 0 => []
  | k + 1 => hexB (n / 16 ^ k % 16) :: hexL n k
theorem hexL_length (n k : Nat) : (hexL n k).length = k := by
  induction k with
  | zero => rfl
  | succ k ih => simp [hexL, ih]
/-- UTF-8 of a code point -/
def encL (r : Int) : List UInt8 :=
  if r < 128 then [byteZ r]
  else if r < 2048 then [byteZ (192 + r / 64), byteZ (128 + r % 64)]
  else if r < 65536 then [byteZ (224 + r / 4096), byteZ (128 + r / 64 % 64), byteZ (128 + r % 64)]
  else [byteZ (240 + r / 262144), byteZ (128 + r / 4096 % 64), byteZ (128 + r / 64 % 64), byteZ (128 + r % 64)]
theorem encL_eq (r : Int) (h : isCP r = true) : encodeRune r = encL r := by
  have h' : 0 ≤ r ∧ r ≤ 1114111 ∧ (r < 55296 ∨ 57343 < r) := by simpa [isCP] using h
  unfold encodeRune encodeRuneZ encL
  by_cases c1 : r < 128
  · rw [if_pos c1, if_pos (by omega)]; rfl
  rw [if_neg c1, if_neg (show ¬ (0 ≤ r ∧ r ≤ 127) by omega)]
  by_cases c2 : r < 2048
  · rw [if_pos c2, if_pos (by omega)]; rfl
  rw [if_neg c2, if_neg (show ¬ (128 ≤ r ∧ r ≤ 2047) by omega)]
  by_cases c3 : r < 65536
  · rw [if_pos c3, if_pos (by omega)]; rfl
  rw [if_neg c3, if_neg (show ¬ ((2048 ≤ r ∧ r < 55296) ∨ (57343 < r ∧ r ≤ 65535)) by omega), if_pos (by omega)]; rfl
/-- the escape sequence of an element -/
def escL (r : Int) : List UInt8 :=
  if r = 7 then [92, 97] else if r = 8 then [92, 98] else if r = 12 then [92, 102] else if r = 10 then [92, 110]
  else if r = 13 then [92, 114] else if r = 9 then [92, 116] else if r = 11 then [92, 118]
  else if r < 0 then 92 :: 120 :: hexL (-1 - r).toNat 2
  else if r < 32 ∨ r = 127 then 92 :: 120 :: hexL r.toNat 2
  else if r < 65536 then 92 :: 117 :: hexL r.toNat 4
  else 92 :: 85 :: hexL r.toNat 8
/-- an element between quotes q, where it stays or not -/
def elemL (q : Int) (stay : Bool) (r : Int) : List UInt8 :=
  if r = q ∨ r = 92 then [92, byteZ r] else if stay then encL r else escL r
/-- elements between quotes -/
def quoteL (q : Int) (st : Int → Bool) (es : List Int) : List UInt8 := byteZ q :: (es.flatMap (fun r => elemL q (st r) r) ++ [byteZ q])

/-- which elements stay unchanged: IsPrint holds (and they are ASCII, if that is asked) -/
def stP (ascii : Bool) (r : Int) : Bool := decide (0 ≤ r) && ((!ascii || decide (r < 128)) && isPrintR goPrintTabs r)
/-- IsGraphic holds -/
def stG (r : Int) : Bool := decide (0 ≤ r) && (isPrintR goPrintTabs r || inGraphic r)

/-- the first element of a text and how many bytes it has -/
def stepL (l : List UInt8) : Int × Nat :=
  let d := decodeN l.length (l.getD 0 0).toNat (l.getD 1 0).toNat (l.getD 2 0).toNat (l.getD 3 0).toNat
  if d.2 = 1 ∧ d.1 = 65533 then (-1 - ((l.getD 0 0).toNat : Int), 1) else ((d.1 : Int), d.2)
def elemsF : Nat → List UInt8 → List Int
  | 0, _ => []
  | f + 1, l => if l = [] then [] else (stepL l).1 :: elemsF f (l.drop (stepL l).2)
/-- the elements of a text -/
def elemsOf (l : List UInt8) : List Int := elemsF l.length l

theorem stepL_pos (l : List UInt8) : 1 ≤ (stepL l).2 := by
  unfold stepL
  simp only
  split
  · simp
  · exact decodeN_ge1 _ _ _ _ _
theorem stepL_le (l : List UInt8) (h : l ≠ []) : (stepL l).2 ≤ l.length := by
  have : 1 ≤ l.length := by cases l; exact absurd rfl h; simp
  unfold stepL
  simp only
  split
  · exact this
  · exact decodeN_width_le _ _ _ _ _ this
theorem elemsF_more : ∀ (f g : Nat) (l : List UInt8), l.length ≤ f → l.length ≤ g → elemsF f l = elemsF g l
  | 0, g, l, h1, h2 => by
    have : l = [] := List.eq_nil_of_length_eq_zero (by omega)
    subst this
    cases g <;> simp [elemsF]
  | f + 1, 0, l, h1, h2 => by
    have : l = [] := List.eq_nil_of_length_eq_zero (by omega)
    subst this
    simp [elemsF]
  | f + 1, g + 1, l, h1, h2 => by
    unfold elemsF
    split
    · rfl
    · rename_i hl
      have hp := stepL_pos l
      have := elemsF_more f g (l.drop (stepL l).2) (by rw [List.length_drop]; omega) (by rw [List.length_drop]; omega)
      rw [this]
theorem elemsOf_nil : elemsOf [] = [] := rfl
theorem elemsOf_cons (l : List UInt8) (h : l ≠ []) : elemsOf l = (stepL l).1 :: elemsOf (l.drop (stepL l).2) := by
  have hl : 1 ≤ l.length := by cases l; exact absurd rfl h; simp
  unfold elemsOf
  obtain ⟨f, hf⟩ : ∃ f, l.length = f + 1 := ⟨l.length - 1, by omega⟩
  rw [hf, elemsF, if_neg h]
  have hp := stepL_pos l
  rw [elemsF_more f (l.drop (stepL l).2).length _ (by rw [List.length_drop]; omega) (Nat.le_refl _)]
/-- an element is a code point or a byte's -/
theorem stepL_valid (l : List UInt8) : isCP (stepL l).1 = true ∨ (-256 ≤ (stepL l).1 ∧ (stepL l).1 ≤ -1) := by
  unfold stepL
  simp only
  split
  · right
    have := UInt8.toNat_lt (l.getD 0 0)
    simp only
    omega
  · left
    have := decodeN_valid l.length (l.getD 0 0).toNat (l.getD 1 0).toNat (l.getD 2 0).toNat (l.getD 3 0).toNat (UInt8.toNat_lt _)
    simp only [isCP, decide_eq_true_eq]
    omega
theorem elemsF_valid : ∀ (f : Nat) (l : List UInt8), ∀ r ∈ elemsF f l, isCP r = true ∨ (-256 ≤ r ∧ r ≤ -1)
  | 0, _, r, h => by simp [elemsF] at h
  | f + 1, l, r, h => by
    unfold elemsF at h
    split at h
    · simp at h
    · rcases List.mem_cons.1 h with rfl | h
      · exact stepL_valid l
      · exact elemsF_valid f _ r h
theorem elemsOf_valid (l : List UInt8) : ∀ r ∈ elemsOf l, isCP r = true ∨ (-256 ≤ r ∧ r ≤ -1) := elemsF_valid _ _
theorem elemsF_length : ∀ (f : Nat) (l : List UInt8), (elemsF f l).length ≤ l.length
  | 0, _ => by simp [elemsF]
  | f + 1, l => by
    unfold elemsF
    split
    · simp
    · rename_i h
      have := elemsF_length f (l.drop (stepL l).2)
      have hp := stepL_pos l
      have hl := stepL_le l h
      rw [List.length_drop] at this
      simp only [List.length_cons]
      omega
theorem elemsOf_length (l : List UInt8) : (elemsOf l).length ≤ l.length := elemsF_length _ _

theorem encL_length (r : Int) : 1 ≤ (encL r).length ∧ (encL r).length ≤ 4 := by
  unfold encL; repeat' split
  all_goals simp
theorem escL_length (r : Int) : 1 ≤ (escL r).length ∧ (escL r).length ≤ 10 := by
  unfold escL; repeat' split
  all_goals simp [hexL_length]
theorem elemL_length (q : Int) (st : Bool) (r : Int) : 1 ≤ (elemL q st r).length ∧ (elemL q st r).length ≤ 10 := by
  unfold elemL
  split
  · simp
  · split
    · have := encL_length r; omega
    · exact escL_length r
theorem flat_length (q : Int) (st : Int → Bool) : ∀ es : List Int, (es.flatMap (fun r => elemL q (st r) r)).length ≤ 10 * es.length
  | [] => by simp
  | r :: es => by
    have := elemL_length q (st r) r
    have := flat_length q st es
    simp only [List.flatMap_cons, List.length_append, List.length_cons]
    omega
theorem quoteL_length (q : Int) (st : Int → Bool) (es : List Int) : (quoteL q st es).length ≤ 10 * es.length + 2 := by
  have := flat_length q st es
  simp only [quoteL, List.length_cons, List.length_append, List.length_nil]
  omega
end Go.Proofs.YthbnglkpkgpojaaDoor
