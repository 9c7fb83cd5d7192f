/-
  Plain: the classes of spec.ClassOf against the tables of strconv.IsPrint and isGraphic. No program in sight.
-/
import Derived.Test.YthbnglkpkgpojaaDoorPlainPrint
import Derived.Lib.QuoteBits
namespace Go.Proofs.YthbnglkpkgpojaaDoor
open Go.Lib

def isCP (r : Int) : Bool := decide (0 ≤ r ∧ r ≤ 1114111 ∧ (r < 55296 ∨ 57343 < r))
/-- the classes, q being what is left of r under the mask 0xfffe -/
def classQ (r q : Int) : Int :=
  if ¬ (0 ≤ r ∧ r ≤ 1114111 ∧ (r < 55296 ∨ 57343 < r)) ∨ r < 32 ∨ (127 ≤ r ∧ r < 160) ∨ r = 173 then 3
  else if r = 160 ∨ r = 5760 ∨ (8192 ≤ r ∧ r ≤ 8202) ∨ r = 8239 ∨ r = 8287 ∨ r = 12288 then 2
  else if r < 768 then 1
  else if r < 880 then 4
  else if (8203 ≤ r ∧ r ≤ 8207) ∨ (8232 ≤ r ∧ r ≤ 8238) ∨ (8288 ≤ r ∧ r ≤ 8303) ∨ r = 65279 then 3
  else if (57344 ≤ r ∧ r ≤ 63743) ∨ 983040 ≤ r ∨ (64976 ≤ r ∧ r ≤ 65007) ∨ q = 65534 ∨ (917504 ≤ r ∧ r ≤ 917631) then 3
  else if (19968 ≤ r ∧ r ≤ 40869) ∨ (44032 ≤ r ∧ r ≤ 55203) ∨ r = 65533 then 1
  else if (945 ≤ r ∧ r ≤ 969) ∨ (1040 ≤ r ∧ r ≤ 1103) ∨ (1488 ≤ r ∧ r ≤ 1514) ∨ (12353 ≤ r ∧ r ≤ 12438) ∨ (12449 ≤ r ∧ r ≤ 12538) then 1
  else if (8208 ≤ r ∧ r ≤ 8231) ∨ (8240 ≤ r ∧ r ≤ 8286) ∨ (8592 ≤ r ∧ r ≤ 8977) ∨ (9472 ≤ r ∧ r ≤ 9727) ∨ (10240 ≤ r ∧ r ≤ 10495) ∨ (128512 ≤ r ∧ r ≤ 128591) then 1
  else 0
def classZ (r : Int) : Int := classQ r (bits .and .i32 r 65534)

theorem and_mask (r : Int) (h0 : 0 ≤ r) (h1 : r ≤ 2147483647) (h : bits .and .i32 r 65534 = 65534) : 65534 ≤ r % 65536 := by
  obtain ⟨k, rfl⟩ := Int.eq_ofNat_of_zero_le h0
  have e : bits .and .i32 (k : Int) 65534 = ((k &&& 65534 : Nat) : Int) := by
    show IntKind.i32.wrap ((BitVec.ofInt 32 (k : Int) &&& BitVec.ofInt 32 ((65534 : Nat) : Int)).toNat : Int) = _
    rw [BitVec.toNat_and, ofInt_u32 k (by omega), ofInt_u32 65534 (by omega)]
    refine wrap_i32_small _ ?_
    have : k &&& 65534 ≤ 65534 := Nat.and_le_right
    omega
  rw [e] at h
  have h2 : k &&& 65534 = 65534 := by omega
  have h3 : k &&& 65535 = k % 65536 := Nat.and_two_pow_sub_one_eq_mod k 16
  have h4 : (k &&& 65535) &&& 65534 = k &&& 65534 := by
    rw [Nat.and_assoc]
    rfl
  have h5 : (k &&& 65535) &&& 65534 ≤ k &&& 65535 := Nat.and_le_left
  omega
theorem lasts_no : ((List.range 17).all fun k => !isPrintR goPrintTabs ((65536 * k + 65534 : Nat) : Int) && !isPrintR goPrintTabs ((65536 * k + 65535 : Nat) : Int)) = true := by kernel_rfl
theorem print_last (r : Int) (h0 : 0 ≤ r) (h1 : r ≤ 1114111) (h : 65534 ≤ r % 65536) : isPrintR goPrintTabs r = false := by
  have := List.all_eq_true.1 lasts_no (r.toNat / 65536) (List.mem_range.2 (by omega))
  simp only [Bool.and_eq_true, Bool.not_eq_true'] at this
  by_cases e : r % 65536 = 65534
  · have : ((65536 * (r.toNat / 65536) + 65534 : Nat) : Int) = r := by omega
    rw [← this]; simp_all
  · have : ((65536 * (r.toNat / 65536) + 65535 : Nat) : Int) = r := by omega
    rw [← this]; simp_all
theorem yes_list : ([(256, 879), (19968, 40869), (44032, 55203), (65533, 65533), (945, 969), (1040, 1103), (1488, 1514), (12353, 12438), (12449, 12538), (8208, 8231), (8240, 8286), (8592, 8977), (9472, 9727), (10240, 10495)].all fun x : Nat × Nat => yes16 x.1 x.2) = true := by kernel_rfl
theorem no_list : ([(8192, 8202), (8239, 8239), (8287, 8287), (8203, 8207), (8232, 8238), (8288, 8303), (65279, 65279), (57344, 63743), (64976, 65007)].all fun x : Nat × Nat => missesL goPrintTabs.p16 x.1 x.2) = true := by kernel_rfl
theorem yes_at (a b : Nat) (hm : (a, b) ∈ [(256, 879), (19968, 40869), (44032, 55203), (65533, 65533), (945, 969), (1040, 1103), (1488, 1514), (12353, 12438), (12449, 12538), (8208, 8231), (8240, 8286), (8592, 8977), (9472, 9727), (10240, 10495)]) (r : Int) (h0 : 255 < r) (h1 : r < 65536) (ha : (a : Int) ≤ r) (hb : r ≤ b) : isPrintR goPrintTabs r = true :=
  print_yes16 a b (List.all_eq_true.1 yes_list (a, b) hm) r h0 h1 ha hb
theorem no_at (a b : Nat) (hm : (a, b) ∈ [(8192, 8202), (8239, 8239), (8287, 8287), (8203, 8207), (8232, 8238), (8288, 8303), (65279, 65279), (57344, 63743), (64976, 65007)]) (r : Int) (h0 : 255 < r) (h1 : r < 65536) (ha : (a : Int) ≤ r) (hb : r ≤ b) : isPrintR goPrintTabs r = false :=
  print_no16 a b (List.all_eq_true.1 no_list (a, b) hm) r h0 h1 ha hb
theorem class_print (r : Int) (h0 : 0 ≤ r) (h1 : r ≤ 2147483647) (hc : classZ r = 1 ∨ classZ r = 4) : isPrintR goPrintTabs r = true := by
  unfold classZ classQ at hc
  generalize bits .and .i32 r 65534 = q at hc
  by_cases c1 : ¬ (0 ≤ r ∧ r ≤ 1114111 ∧ (r < 55296 ∨ 57343 < r)) ∨ r < 32 ∨ (127 ≤ r ∧ r < 160) ∨ r = 173
  · rw [if_pos c1] at hc; omega
  rw [if_neg c1] at hc
  by_cases c2 : r = 160 ∨ r = 5760 ∨ (8192 ≤ r ∧ r ≤ 8202) ∨ r = 8239 ∨ r = 8287 ∨ r = 12288
  · rw [if_pos c2] at hc; omega
  rw [if_neg c2] at hc
  by_cases c3 : r < 880
  · by_cases hl : r ≤ 255
    · rw [print_latin r hl]
      simp only [isPrintLatin, Bool.or_eq_true, Bool.and_eq_true, decide_eq_true_eq]
      omega
    · exact yes_at 256 879 (by simp) r (by omega) (by omega) (by omega) (by omega)
  rw [if_neg (by omega), if_neg c3] at hc
  by_cases c4 : (8203 ≤ r ∧ r ≤ 8207) ∨ (8232 ≤ r ∧ r ≤ 8238) ∨ (8288 ≤ r ∧ r ≤ 8303) ∨ r = 65279
  · rw [if_pos c4] at hc; omega
  rw [if_neg c4] at hc
  by_cases c5 : (57344 ≤ r ∧ r ≤ 63743) ∨ 983040 ≤ r ∨ (64976 ≤ r ∧ r ≤ 65007) ∨ q = 65534 ∨ (917504 ≤ r ∧ r ≤ 917631)
  · rw [if_pos c5] at hc; omega
  rw [if_neg c5] at hc
  by_cases c6 : (19968 ≤ r ∧ r ≤ 40869) ∨ (44032 ≤ r ∧ r ≤ 55203) ∨ r = 65533
  · rcases c6 with c | c | c
    · exact yes_at 19968 40869 (by simp) r (by omega) (by omega) (by omega) (by omega)
    · exact yes_at 44032 55203 (by simp) r (by omega) (by omega) (by omega) (by omega)
    · exact yes_at 65533 65533 (by simp) r (by omega) (by omega) (by omega) (by omega)
  rw [if_neg c6] at hc
  by_cases c7 : (945 ≤ r ∧ r ≤ 969) ∨ (1040 ≤ r ∧ r ≤ 1103) ∨ (1488 ≤ r ∧ r ≤ 1514) ∨ (12353 ≤ r ∧ r ≤ 12438) ∨ (12449 ≤ r ∧ r ≤ 12538)
  · rcases c7 with c | c | c | c | c
    · exact yes_at 945 969 (by simp) r (by omega) (by omega) (by omega) (by omega)
    · exact yes_at 1040 1103 (by simp) r (by omega) (by omega) (by omega) (by omega)
    · exact yes_at 1488 1514 (by simp) r (by omega) (by omega) (by omega) (by omega)
    · exact yes_at 12353 12438 (by simp) r (by omega) (by omega) (by omega) (by omega)
    · exact yes_at 12449 12538 (by simp) r (by omega) (by omega) (by omega) (by omega)
  rw [if_neg c7] at hc
  by_cases c8 : (8208 ≤ r ∧ r ≤ 8231) ∨ (8240 ≤ r ∧ r ≤ 8286) ∨ (8592 ≤ r ∧ r ≤ 8977) ∨ (9472 ≤ r ∧ r ≤ 9727) ∨ (10240 ≤ r ∧ r ≤ 10495) ∨ (128512 ≤ r ∧ r ≤ 128591)
  · rcases c8 with c | c | c | c | c | c
    · exact yes_at 8208 8231 (by simp) r (by omega) (by omega) (by omega) (by omega)
    · exact yes_at 8240 8286 (by simp) r (by omega) (by omega) (by omega) (by omega)
    · exact yes_at 8592 8977 (by simp) r (by omega) (by omega) (by omega) (by omega)
    · exact yes_at 9472 9727 (by simp) r (by omega) (by omega) (by omega) (by omega)
    · exact yes_at 10240 10495 (by simp) r (by omega) (by omega) (by omega) (by omega)
    · exact print_yes32 128512 128591 (by kernel_rfl) r (by omega) (by omega) (by omega)
  rw [if_neg c8] at hc
  omega
/-- a space other than that of ASCII -/
def spaceZ (r : Int) : Prop := r = 160 ∨ r = 5760 ∨ (8192 ≤ r ∧ r ≤ 8202) ∨ r = 8239 ∨ r = 8287 ∨ r = 12288
theorem space_no (r : Int) (h : spaceZ r) : isPrintR goPrintTabs r = false := by
  rcases h with c | c | c | c | c | c
  · subst c; kernel_rfl
  · subst c; kernel_rfl
  · exact no_at 8192 8202 (by simp) r (by omega) (by omega) (by omega) (by omega)
  · exact no_at 8239 8239 (by simp) r (by omega) (by omega) (by omega) (by omega)
  · exact no_at 8287 8287 (by simp) r (by omega) (by omega) (by omega) (by omega)
  · subst c; kernel_rfl
theorem class_not_print (r : Int) (h0 : 0 ≤ r) (h1 : r ≤ 2147483647) (hc : classZ r = 2 ∨ classZ r = 3) : isPrintR goPrintTabs r = false := by
  unfold classZ classQ at hc
  obtain ⟨q, hq⟩ : ∃ q, bits .and .i32 r 65534 = q := ⟨_, rfl⟩
  rw [hq] at hc
  by_cases c1 : ¬ (0 ≤ r ∧ r ≤ 1114111 ∧ (r < 55296 ∨ 57343 < r)) ∨ r < 32 ∨ (127 ≤ r ∧ r < 160) ∨ r = 173
  · by_cases hb : 1114111 < r
    · exact print_big r hb h1
    by_cases hs : 55296 ≤ r ∧ r ≤ 57343
    · exact print_surrogate r hs.1 hs.2
    rw [print_latin r (by omega)]
    simp only [isPrintLatin, Bool.or_eq_false_iff, Bool.and_eq_false_iff, decide_eq_false_iff_not]
    omega
  rw [if_neg c1] at hc
  by_cases c2 : r = 160 ∨ r = 5760 ∨ (8192 ≤ r ∧ r ≤ 8202) ∨ r = 8239 ∨ r = 8287 ∨ r = 12288
  · exact space_no r c2
  rw [if_neg c2] at hc
  by_cases c3 : r < 768
  · rw [if_pos c3] at hc; omega
  rw [if_neg c3] at hc
  by_cases c3' : r < 880
  · rw [if_pos c3'] at hc; omega
  rw [if_neg c3'] at hc
  by_cases c4 : (8203 ≤ r ∧ r ≤ 8207) ∨ (8232 ≤ r ∧ r ≤ 8238) ∨ (8288 ≤ r ∧ r ≤ 8303) ∨ r = 65279
  · rcases c4 with c | c | c | c
    · exact no_at 8203 8207 (by simp) r (by omega) (by omega) (by omega) (by omega)
    · exact no_at 8232 8238 (by simp) r (by omega) (by omega) (by omega) (by omega)
    · exact no_at 8288 8303 (by simp) r (by omega) (by omega) (by omega) (by omega)
    · exact no_at 65279 65279 (by simp) r (by omega) (by omega) (by omega) (by omega)
  rw [if_neg c4] at hc
  by_cases c5 : (57344 ≤ r ∧ r ≤ 63743) ∨ 983040 ≤ r ∨ (64976 ≤ r ∧ r ≤ 65007) ∨ q = 65534 ∨ (917504 ≤ r ∧ r ≤ 917631)
  · rcases c5 with c | c | c | c | c
    · exact no_at 57344 63743 (by simp) r (by omega) (by omega) (by omega) (by omega)
    · exact print_no32 983040 2147483647 (by kernel_rfl) r (by omega) (by omega) (by omega)
    · exact no_at 64976 65007 (by simp) r (by omega) (by omega) (by omega) (by omega)
    · exact print_last r h0 (by omega) (and_mask r h0 h1 (by rw [hq, c]))
    · exact print_no32 917504 917631 (by kernel_rfl) r (by omega) (by omega) (by omega)
  rw [if_neg c5] at hc
  by_cases c6 : (19968 ≤ r ∧ r ≤ 40869) ∨ (44032 ≤ r ∧ r ≤ 55203) ∨ r = 65533
  · rw [if_pos c6] at hc; omega
  rw [if_neg c6] at hc
  by_cases c7 : (945 ≤ r ∧ r ≤ 969) ∨ (1040 ≤ r ∧ r ≤ 1103) ∨ (1488 ≤ r ∧ r ≤ 1514) ∨ (12353 ≤ r ∧ r ≤ 12438) ∨ (12449 ≤ r ∧ r ≤ 12538)
  · rw [if_pos c7] at hc; omega
  rw [if_neg c7] at hc
  split at hc <;> omega
theorem class_two (r : Int) : classZ r = 2 ↔ spaceZ r := by
  unfold classZ classQ spaceZ
  generalize bits .and .i32 r 65534 = q
  constructor
  · intro h
    repeat' split at h
    all_goals first | assumption | omega
  · intro h
    rw [if_neg (by omega), if_pos h]
/-- the list isGraphic: r as a number of 16 bits -/
def inGraphic (r : Int) : Bool := if 65535 < r then false else bsearchFound Pinned.isGraphicZ (r % 65536).toNat
theorem graphic_mem (n : Nat) : n ∈ Pinned.isGraphicZ ↔ n = 160 ∨ n = 5760 ∨ (8192 ≤ n ∧ n ≤ 8202) ∨ n = 8239 ∨ n = 8287 ∨ n = 12288 := by
  simp only [Pinned.isGraphicZ, List.mem_cons, List.mem_nil_iff, or_false]
  omega
theorem inGraphic_eq (r : Int) (h0 : 0 ≤ r) : inGraphic r = true ↔ spaceZ r := by
  unfold inGraphic spaceZ
  split
  · constructor
    · intro h; cases h
    · intro h; omega
  · have e : (r % 65536).toNat = r.toNat := by omega
    rw [e]
    constructor
    · intro h
      have := (graphic_mem _).1 (mem_of_found _ _ h)
      omega
    · intro h
      exact found_of_mem _ _ sortedG ((graphic_mem _).2 (by omega))
end Go.Proofs.YthbnglkpkgpojaaDoor
