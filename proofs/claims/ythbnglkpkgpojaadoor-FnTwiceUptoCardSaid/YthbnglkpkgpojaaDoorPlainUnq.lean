/-
  Plain: what unquoting meets in a quoted text: either nothing is escaped, and then the bytes stand as they are, or a backslash stands before the first quote; quoted texts are no shorter. No program in sight.
-/
import Derived.Test.YthbnglkpkgpojaaDoorPlainQLaws
import Derived.Lib.ValidLaws
import Derived.Lib.Bytealg
import Derived.Lib.IndexLaws
namespace Go.Proofs.YthbnglkpkgpojaaDoor
open Go.Lib
set_option linter.unusedVariables false
set_option linter.unusedSimpArgs false
/-- an element that stands as it is -/
def plainE (q : Int) (st : Int → Bool) (r : Int) : Prop := st r = true ∧ r ≠ q ∧ r ≠ 92
theorem valE_ge {r : Int} (hv : valE r) : -256 ≤ r := by
  rcases hv with h | h
  · omega
  · have := cp_bounds h; omega
theorem elem_plain {q : Int} {st : Int → Bool} {r : Int} (h : plainE q st r) : elemL q (st r) r = encL r := by
  obtain ⟨h1, h2, h3⟩ := h
  rw [elemL, if_neg (by omega), if_pos h1]
theorem elem_not_plain {q : Int} {st : Int → Bool} {r : Int} (hv : valE r) (h : ¬ plainE q st r) : ∃ t, elemL q (st r) r = 92 :: t := by
  unfold elemL
  by_cases hq : r = q ∨ r = 92
  · rw [if_pos hq]; exact ⟨_, rfl⟩
  · rw [if_neg hq]
    have hs : ¬ st r = true := fun hs => h ⟨hs, by omega, by omega⟩
    rw [if_neg hs]
    obtain ⟨a, t, e, _⟩ := escL_shape (valE_ge hv)
    exact ⟨_, e⟩
/-- the bytes of an element that stands as it is: no quote, no backslash, no control character -/
theorem enc_plain {q : Int} {st : Int → Bool} (hs : OkSt st) (hq : q = 34 ∨ q = 39) {r : Int} (hv : valE r) (h : plainE q st r) : ∀ c ∈ encL r, 32 ≤ c.toNat ∧ c ≠ 92 ∧ c ≠ byteZ q := by
  obtain ⟨h1, h2, h3⟩ := h
  have h0 := hs.nonneg r h1
  have hcp := hv.resolve_left (by omega)
  intro c hc
  by_cases hlt : r < 128
  · have h4 := hs.ascii r h1 hlt
    rw [encL_small hlt] at hc
    have e : c = byteZ r := by simpa using hc
    have e2 := byteZ_toNat (r := r) h0 (by omega)
    rw [← e] at e2
    refine ⟨by omega, ne_of_nat (k := 92) (by omega) (by omega), ?_⟩
    rcases hq with rfl | rfl
    · exact ne_of_nat (k := 34) (by omega) (by omega)
    · exact ne_of_nat (k := 39) (by omega) (by omega)
  · have := encL_big hcp hlt c hc
    refine ⟨by omega, ne_of_nat (k := 92) (by omega) (by omega), ?_⟩
    rcases hq with rfl | rfl
    · exact ne_of_nat (k := 34) (by omega) (by omega)
    · exact ne_of_nat (k := 39) (by omega) (by omega)
theorem plain_cp {q : Int} {st : Int → Bool} (hs : OkSt st) {r : Int} (hv : valE r) (h : plainE q st r) : isCP r = true := hv.resolve_left (by have := hs.nonneg r h.1; omega)
theorem flat_all_plain {q : Int} {st : Int → Bool} (hs : OkSt st) (hq : q = 34 ∨ q = 39) : ∀ (es : List Int), (∀ r ∈ es, valE r) → (∀ r ∈ es, plainE q st r) → flatE q st es = es.flatMap bytesE ∧ ∀ c ∈ flatE q st es, 32 ≤ c.toNat ∧ c ≠ 92 ∧ c ≠ byteZ q
  | [], _, _ => ⟨rfl, by simp [flatE]⟩
  | r :: es, hv, hp => by
    have hr := hp r (List.mem_cons_self ..)
    have hvr := hv r (List.mem_cons_self ..)
    obtain ⟨h1, h2⟩ := flat_all_plain hs hq es (fun x hx => hv x (List.mem_cons_of_mem _ hx)) (fun x hx => hp x (List.mem_cons_of_mem _ hx))
    have e : flatE q st (r :: es) = encL r ++ flatE q st es := by rw [flatE, List.flatMap_cons, elem_plain hr]; rfl
    have h0 := hs.nonneg r hr.1
    refine ⟨by rw [e, h1, List.flatMap_cons, bytesE, if_neg (by omega)], ?_⟩
    rw [e]
    intro c hc
    rcases List.mem_append.1 hc with hc | hc
    · exact enc_plain hs hq hvr hr c hc
    · exact h2 c hc
/-- the decoder at the bytes of a code point -/
theorem decodeL_enc {r : Int} (h : isCP r = true) (x : List UInt8) : (decodeL (encL r ++ x)).2 = (encL r).length ∧ ¬ ((decodeL (encL r ++ x)).1 = 65533 ∧ (decodeL (encL r ++ x)).2 = 1) := by
  have hne : encL r ++ x ≠ [] := by simp [encL_ne]
  have e : decodeL (encL r ++ x) = decodeN (encL r ++ x).length ((encL r ++ x).getD 0 0).toNat ((encL r ++ x).getD 1 0).toNat ((encL r ++ x).getD 2 0).toNat ((encL r ++ x).getD 3 0).toNat := by
    unfold decodeL
    rw [Lib.decode_at]
    have hg : ∀ i, (ByteArray.mk (encL r ++ x).toArray).get! i = (encL r ++ x).getD i 0 := fun i => (Lib.getD_get!' (ByteArray.mk (encL r ++ x).toArray) i).symm
    simp only [hg, Nat.sub_zero]
    rfl
  have hs := step_enc h x
  have h0 := (cp_bounds h).1
  unfold stepL at hs
  simp only [← e] at hs
  split at hs
  · have := congrArg Prod.fst hs
    simp only at this
    omega
  · rename_i hb
    have := congrArg Prod.snd hs
    exact ⟨this, fun hc => hb ⟨hc.2, hc.1⟩⟩
theorem valid_flat : ∀ (es : List Int), (∀ r ∈ es, isCP r = true) → validD (es.flatMap bytesE) = true
  | [], _ => rfl
  | r :: es, h => by
    have hr := h r (List.mem_cons_self ..)
    have ih := valid_flat es fun x hx => h x (List.mem_cons_of_mem _ hx)
    rw [List.flatMap_cons, bytesE, if_neg (by have := (cp_bounds hr).1; omega)]
    obtain ⟨h1, h2⟩ := decodeL_enc hr (es.flatMap bytesE)
    rw [validD_step _ (by simp [encL_ne]), if_neg h2, h1, List.drop_left]
    exact ih
theorem index_not_mem {l : List UInt8} {c : UInt8} (h : c ∉ l) : indexByte l c = -1 := by
  rcases Int.lt_or_le (indexByte l c) 0 with h1 | h1
  · have := indexByte_ge l c; omega
  · obtain ⟨o, ho⟩ := Int.eq_ofNat_of_zero_le h1
    exact absurd (List.mem_of_getElem? (indexByte_some ho).1) h
theorem index_mem {l : List UInt8} {c : UInt8} (h : c ∈ l) : ∃ o : Nat, indexByte l c = o ∧ l[o]? = some c ∧ ∀ k, k < o → l[k]? ≠ some c := by
  rcases Int.lt_or_le (indexByte l c) 0 with h1 | h1
  · have h2 : indexByte l c = -1 := by have := indexByte_ge l c; omega
    obtain ⟨k, hk⟩ := List.getElem?_of_mem h
    exact absurd hk (indexByte_none h2 k)
  · obtain ⟨o, ho⟩ := Int.eq_ofNat_of_zero_le h1
    exact ⟨o, ho, indexByte_some ho⟩
/-- the first quote in what follows the first byte -/
theorem index_flat {a b : List UInt8} {c : UInt8} (h : c ∉ a) : indexByte (a ++ c :: b) c = (a.length : Int) := by
  obtain ⟨o, ho, h1, h2⟩ := index_mem (l := a ++ c :: b) (c := c) (by simp)
  rw [ho]
  have h3 : ¬ o < a.length := fun hlt => by
    rw [List.getElem?_append_left hlt] at h1
    exact h (List.mem_of_getElem? h1)
  have h4 : ¬ a.length < o := fun hlt => h2 a.length hlt (by simp)
  omega
/-- nothing is escaped -/
theorem unq_plain {q : Int} {st : Int → Bool} (hs : OkSt st) (hq : q = 34 ∨ q = 39) (es : List Int) (hv : ∀ r ∈ es, valE r) (hp : ∀ r ∈ es, plainE q st r) :
    indexByte (flatE q st es ++ [byteZ q]) (byteZ q) = ((flatE q st es).length : Int) ∧ indexByte (quoteL q st es) 92 = -1 ∧ indexByte (quoteL q st es) 10 = -1 ∧ validD (flatE q st es) = true ∧ flatE q st es = es.flatMap bytesE := by
  obtain ⟨h1, h2⟩ := flat_all_plain hs hq es hv hp
  have hb : byteZ q ≠ 92 ∧ byteZ q ≠ 10 := by rcases hq with rfl | rfl <;> decide
  refine ⟨index_flat fun h => (h2 _ h).2.2 rfl, index_not_mem ?_, index_not_mem ?_, ?_, h1⟩
  · rw [quoteL_eq]
    intro h
    simp only [List.mem_cons, List.mem_append, List.not_mem_nil, or_false] at h
    rcases h with h | h | h
    · exact hb.1 h.symm
    · exact (h2 _ h).2.1 rfl
    · exact hb.1 h.symm
  · rw [quoteL_eq]
    intro h
    simp only [List.mem_cons, List.mem_append, List.not_mem_nil, or_false] at h
    rcases h with h | h | h
    · exact hb.2 h.symm
    · exact absurd (h2 _ h).1 (by decide)
    · exact hb.2 h.symm
  · rw [h1]
    exact valid_flat es fun r hr => plain_cp hs (hv r hr) (hp r hr)
/-- something is escaped -/
theorem flat_escaped {q : Int} {st : Int → Bool} (hs : OkSt st) (hq : q = 34 ∨ q = 39) : ∀ (es : List Int), (∀ r ∈ es, valE r) → ¬ (∀ r ∈ es, plainE q st r) → ∃ A B, flatE q st es = A ++ 92 :: B ∧ byteZ q ∉ A
  | [], _, hn => absurd (fun r hr => by simp at hr) hn
  | r :: es, hv, hn => by
    have e : flatE q st (r :: es) = elemL q (st r) r ++ flatE q st es := by rw [flatE, List.flatMap_cons]; rfl
    by_cases hr : plainE q st r
    · have hn2 : ¬ ∀ x ∈ es, plainE q st x := fun h => hn fun x hx => by
        rcases List.mem_cons.1 hx with rfl | hx
        · exact hr
        · exact h x hx
      obtain ⟨A, B, h1, h2⟩ := flat_escaped hs hq es (fun x hx => hv x (List.mem_cons_of_mem _ hx)) hn2
      refine ⟨encL r ++ A, B, by rw [e, h1, elem_plain hr, List.append_assoc], fun h => ?_⟩
      rcases List.mem_append.1 h with h | h
      · exact (enc_plain hs hq (hv r (List.mem_cons_self ..)) hr _ h).2.2 rfl
      · exact h2 h
    · obtain ⟨t, ht⟩ := elem_not_plain (hv r (List.mem_cons_self ..)) hr
      exact ⟨[], t ++ flatE q st es, by rw [e, ht]; rfl, by simp⟩
theorem unq_escaped {q : Int} {st : Int → Bool} (hs : OkSt st) (hq : q = 34 ∨ q = 39) (es : List Int) (hv : ∀ r ∈ es, valE r) (hn : ¬ ∀ r ∈ es, plainE q st r) :
    ∃ p : Nat, indexByte (flatE q st es ++ [byteZ q]) (byteZ q) = (p : Int) ∧ p ≤ (flatE q st es).length ∧ ∃ o : Nat, indexByte ((quoteL q st es).take (p + 2)) 92 = (o : Int) := by
  obtain ⟨A, B, h1, h2⟩ := flat_escaped hs hq es hv hn
  have hb : byteZ q ≠ 92 := by rcases hq with rfl | rfl <;> decide
  obtain ⟨p, hp, h3, h4⟩ := index_mem (l := flatE q st es ++ [byteZ q]) (c := byteZ q) (by simp)
  have hlen : p < (flatE q st es ++ [byteZ q]).length := (List.getElem?_eq_some_iff.1 h3).1
  have hA : A.length < p := by
    rcases Nat.lt_trichotomy p A.length with h | h | h
    · rw [h1, List.append_assoc, List.getElem?_append_left h] at h3
      exact absurd (List.mem_of_getElem? h3) h2
    · subst h
      rw [h1] at h3
      simp at h3
      exact absurd h3.symm hb
    · exact h
  refine ⟨p, hp, by simp at hlen; omega, ?_⟩
  obtain ⟨o, ho, _⟩ := index_mem (l := (quoteL q st es).take (p + 2)) (c := 92) (by
    refine List.mem_of_getElem? (i := A.length + 1) ?_
    rw [List.getElem?_take_of_lt (by omega), quoteL_eq, h1]
    simp)
  exact ⟨o, ho⟩
/-! Lengths. -/
theorem elem_grows {q : Int} (hq : q = 34 ∨ q = 39) {st : Int → Bool} (hs : OkSt st) {r : Int} (hv : valE r) : (bytesE r).length + (bytesE r).count (byteZ q) ≤ (elemL q (st r) r).length := by
  have hq2 : 32 ≤ q ∧ q ≤ 126 := by omega
  by_cases h0 : r < 0
  · have hr : -256 ≤ r ∧ r ≤ -129 := by
      rcases hv with h | h
      · exact h
      · have := cp_bounds h; omega
    have hst : ¬ st r = true := fun h => by have := hs.nonneg r h; omega
    have e2 := byteZ_toNat (r := -1 - r) (by omega) (by omega)
    have hc : (bytesE r).count (byteZ q) = 0 := by
      rw [bytesE, if_pos h0]
      refine List.count_eq_zero.2 fun h => ?_
      have h' : byteZ q = byteZ (-1 - r) := by simpa using h
      have e3 := byteZ_toNat (r := q) (by omega) (by omega)
      rw [h'] at e3; omega
    rw [hc, bytesE, if_pos h0, elemL, if_neg (by omega), if_neg hst, escL_len, if_neg (by omega), if_pos (by omega)]
    simp
  · have hcp := hv.resolve_left (by omega)
    by_cases hlt : r < 128
    · have e2 := byteZ_toNat (r := r) (by omega) (by omega)
      have hc : (bytesE r).count (byteZ q) ≤ 1 := by
        rw [bytesE, if_neg h0, encL_small hlt]
        exact List.count_le_length
      have hl : (bytesE r).length = 1 := by rw [bytesE, if_neg h0, encL_small hlt]; rfl
      by_cases hrq : r = q
      · subst hrq
        rw [elemL, if_pos (.inl rfl)]
        simp only [List.length_cons, List.length_nil]; omega
      · have hc0 : (bytesE r).count (byteZ q) = 0 := by
          rw [bytesE, if_neg h0, encL_small hlt]
          refine List.count_eq_zero.2 fun h => ?_
          have h' : byteZ q = byteZ r := by simpa using h
          have e3 := byteZ_toNat (r := q) (by omega) (by omega)
          rw [h'] at e3; omega
        have := (elemL_length q (st r) r).1
        omega
    · have hc0 : (bytesE r).count (byteZ q) = 0 := by
        rw [bytesE, if_neg h0]
        refine List.count_eq_zero.2 fun h => ?_
        have h' := encL_big hcp hlt _ h
        have e3 := byteZ_toNat (r := q) (by omega) (by omega)
        omega
      rw [hc0, bytesE, if_neg h0, elemL, if_neg (by omega)]
      split
      · omega
      · rw [encL_len, escL_len]
        have := cp_bounds hcp
        repeat' split
        all_goals omega
theorem flat_grows {q : Int} (hq : q = 34 ∨ q = 39) {st : Int → Bool} (hs : OkSt st) : ∀ (es : List Int), (∀ r ∈ es, valE r) → (es.flatMap bytesE).length + (es.flatMap bytesE).count (byteZ q) ≤ (flatE q st es).length
  | [], _ => by simp [flatE]
  | r :: es, h => by
    have h1 := elem_grows hq hs (h r (List.mem_cons_self ..))
    have h2 := flat_grows hq hs es fun x hx => h x (List.mem_cons_of_mem _ hx)
    rw [flatE] at h2 ⊢
    rw [List.flatMap_cons, List.flatMap_cons, List.length_append, List.length_append, List.count_append]; omega
theorem quote_grows {st : Int → Bool} (hs : OkSt st) (l : List UInt8) : l.length + l.count 34 + 2 ≤ (quoteL 34 st (elemsOf l)).length := by
  have := flat_grows (q := 34) (.inl rfl) hs (elemsOf l) (elems_val l)
  rw [elems_bytes, show byteZ 34 = 34 from rfl] at this
  rw [quoteL_eq]
  simp only [List.length_cons, List.length_append, List.length_nil]
  omega
theorem quote_count (st : Int → Bool) (es : List Int) : 2 ≤ (quoteL 34 st es).count 34 := by
  rw [quoteL_eq, show byteZ 34 = 34 from rfl]
  simp
end Go.Proofs.YthbnglkpkgpojaaDoor
