/-
  Plain: the ASCII form of a quoted text is ASCII, and that of an ASCII text is its plain quoted form.
-/
import Derived.Test.YthbnglkpkgpojaaDoorPlainQLaws
namespace Go.Proofs.YthbnglkpkgpojaaDoor
open Go.RowKit
def asciiL (l : List UInt8) : Bool := l.all fun c => decide (c.toNat < 128)
theorem elem_ascii {q : Int} (hq : q = 34 ∨ q = 39) {r : Int} (hv : -256 ≤ r) : ∀ c ∈ elemL q (stP true r) r, c.toNat < 128 := by
  intro c hc
  unfold elemL at hc
  split at hc
  · rename_i h
    simp at hc
    rcases hc with rfl | rfl
    · decide
    · rcases h with h | h <;> rcases hq with rfl | rfl <;> subst h <;> decide
  · split at hc
    · rename_i _ h
      simp [stP] at h
      rw [encL_small h.2.1] at hc
      simp at hc; subst hc
      have := byteZ_toNat (r := r) (by omega) (by omega); omega
    · obtain ⟨a, t, e, ⟨h1, h2, _⟩, h3⟩ := escL_shape hv
      rw [e] at hc
      simp at hc
      rcases hc with rfl | rfl | hc
      · decide
      · omega
      · have := h3 c hc; omega
theorem quote_ascii {q : Int} (hq : q = 34 ∨ q = 39) (es : List Int) (hv : ∀ r ∈ es, -256 ≤ r) : asciiL (quoteL q (stP true) es) = true := by
  have hb : (byteZ q).toNat < 128 := by rcases hq with rfl | rfl <;> decide
  unfold asciiL
  rw [List.all_eq_true]
  intro c hc
  rw [quoteL_eq] at hc
  simp only [List.mem_cons, List.mem_append, List.not_mem_nil, or_false] at hc
  rw [decide_eq_true_iff]
  rcases hc with rfl | hc | rfl
  · exact hb
  · rw [flatE, List.mem_flatMap] at hc
    obtain ⟨r, hr, hc⟩ := hc
    exact elem_ascii hq (hv r hr) c hc
  · exact hb
theorem quote_ascii_same {l : List UInt8} (h : asciiL l = true) : quoteL 34 (stP true) (elemsOf l) = quoteL 34 (stP false) (elemsOf l) := by
  unfold asciiL at h
  rw [List.all_eq_true] at h
  rw [elems_ascii l fun c hc => by simpa using h c hc, quoteL_eq, quoteL_eq]
  congr 2
  unfold flatE
  rw [List.flatMap_def, List.flatMap_def]
  congr 1
  refine List.map_congr_left fun x hx => ?_
  obtain ⟨c, hc, rfl⟩ := List.mem_map.1 hx
  have := h c hc
  have e : stP true (c.toNat : Int) = stP false (c.toNat : Int) := by
    simp at this
    have h2 : (c.toNat : Int) < 128 := by omega
    simp [stP, h2]
  rw [e]
end Go.Proofs.YthbnglkpkgpojaaDoor
