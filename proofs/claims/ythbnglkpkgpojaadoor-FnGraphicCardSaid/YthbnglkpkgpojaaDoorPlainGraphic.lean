/-
  Plain: what IsPrint and IsGraphic hold for is a code point; a character stands as it is between quotes just if it stays. No program in sight.
-/
import Derived.Test.YthbnglkpkgpojaaDoorPlainQLaws
namespace Go.Proofs.YthbnglkpkgpojaaDoor
open Go.Lib
set_option linter.unusedVariables false
theorem print_cp {r : Int} (h0 : 0 ≤ r) (h1 : r ≤ 2147483647) (h : isPrintR goPrintTabs r = true) : isCP r = true := by
  simp only [isCP, decide_eq_true_eq]
  refine ⟨h0, ?_, ?_⟩
  · rcases Int.lt_or_le 1114111 r with hb | hb
    · rw [print_big r hb h1] at h; cases h
    · exact hb
  · rcases Int.lt_or_le r 55296 with hb | hb
    · exact .inl hb
    · rcases Int.lt_or_le 57343 r with hc | hc
      · exact .inr hc
      · rw [print_surrogate r hb hc] at h; cases h
theorem graphic_cp {r : Int} (h0 : 0 ≤ r) (h : inGraphic r = true) : isCP r = true := by
  have := (inGraphic_eq r h0).1 h
  unfold spaceZ at this
  simp only [isCP, decide_eq_true_eq]
  omega
theorem graphic_ascii {r : Int} (h0 : 0 ≤ r) (h1 : r < 128) : inGraphic r = false := by
  cases h : inGraphic r
  · rfl
  · have := spaceZ_ge ((inGraphic_eq r h0).1 h); omega
theorem quote_same {st : Int → Bool} {r : Int} (h : isCP r = true) (h1 : r ≠ 34) (h2 : r ≠ 92) : (quoteL 34 st (elemsOf (encL r)) == 34 :: (encL r ++ [34])) = st r := by
  have hb := cp_bounds h
  have e : quoteL 34 st (elemsOf (encL r)) = 34 :: ((if st r then encL r else escL r) ++ [34]) := by
    rw [elems_one h, quoteL_eq, flatE]
    simp only [List.flatMap_cons, List.flatMap_nil, List.append_nil]
    rw [elemL, if_neg (by omega)]; rfl
  rw [e]
  cases hs : st r
  · rw [if_neg (by simp)]
    rw [beq_eq_false_iff_ne]
    intro he
    have he2 := List.append_cancel_right (List.cons.inj he).2
    obtain ⟨a, t, e3, _⟩ := escL_shape (r := r) (by omega)
    rw [e3] at he2
    by_cases hlt : r < 128
    · rw [encL_small hlt] at he2
      have := congrArg List.length he2
      simp at this
    · have := encL_big h hlt 92 (by rw [← he2]; simp)
      exact absurd this (by decide)
  · rw [if_pos rfl]; simp
end Go.Proofs.YthbnglkpkgpojaaDoor
