/-
  The walk of laws.FnQuote: it returns true.
-/
import Derived.Test.YtpboiodigfdajaaDoorQuotes
import Derived.Test.YtpboiodigfdajaaDoorElements
import Derived.Test.YtpboiodigfdajaaDoorQuoted
import Derived.Test.YtpboiodigfdajaaDoorPlainText
namespace Go.Proofs.YtpboiodigfdajaaDoor.fnQuote
open Go.RowKit
set_option linter.unusedVariables false
set_option maxHeartbeats 1000000 in
theorem walk (w : World) (a : ByteArray) (ha : a.size ≤ 1048576) (hL : laidMetH Tryd.prog Rows.fnQuoteUptoRow.laid w) :
    Calls Tryd.prog 3 #[.string a] w fun e w' => e = .returned (.bool true) ∧ Below w.heap.size w w' := by
  have hT : PrintT w := printT_of hL (by kernel_rfl) (by simp [Rows.fnQuoteUptoRow, Rows.laid_strconv_isPrint16]) (by simp [Rows.fnQuoteUptoRow, Rows.laid_strconv_isNotPrint16]) (by simp [Rows.fnQuoteUptoRow, Rows.laid_strconv_isPrint32]) (by simp [Rows.fnQuoteUptoRow, Rows.laid_strconv_isNotPrint32])
  have hG : GraphicT w := graphicT_of hL (by kernel_rfl) (by simp [Rows.fnQuoteUptoRow, Rows.laid_strconv_isGraphic])
  have hU : Utf8T w := utf8T_of hL (by kernel_rfl) (by simp [Rows.fnQuoteUptoRow, Rows.laid_unicode_utf8_first]) (by simp [Rows.fnQuoteUptoRow, Rows.laid_unicode_utf8_acceptRanges]; kernel_rfl)
  obtain ⟨s, rfl⟩ : ∃ s, a = str s := ⟨a.data.toList, (str_toList a).symm⟩
  rw [size_str] at ha
  have hv2 : ∀ x ∈ elemsOf s, -256 ≤ x ∧ x ≤ 1114111 ∧ ((stP false) x = true → 0 ≤ x) := fun x hx => by
    have h1 := elems_val s x hx
    have h2 : -256 ≤ x ∧ x ≤ 1114111 := by
      rcases h1 with h | h
      · omega
      · have := cp_bounds h; omega
    exact ⟨h2.1, h2.2, (okP _).nonneg x⟩
  have hv : ∀ x ∈ elemsOf s, -2147483648 ≤ x ∧ x ≤ 2147483647 := fun x hx => by have := hv2 x hx; omega
  have C1 := Lib.hid (elements_any s w (by omega))
  have hel := elemsOf_length s
  have HT := Lib.hid hT
  have HG := Lib.hid hG
  have HU := Lib.hid hU
  have HV := Lib.hid hv
  have HV2 := Lib.hid hv2
  obtain ⟨L, hLq⟩ : ∃ L, L = quoteL 34 (stP false) (elemsOf s) := ⟨_, rfl⟩
  have HLq := Lib.hid hLq
  clear hL hT hG hU hv hv2 hLq
  go_enter Tryd.func3, Tryd.ntmps3
  go_wp2_with fail
  refine C1.out.mono ?_
  rintro e w1 ⟨v1, rfl, ho⟩
  obtain ⟨A, c, hv1, _, _, hR⟩ := ho.form
  rw [icells_length] at hv1 hR
  rw [hv1]
  have hb1 := ho.isBelow
  have C2 := Lib.hid (iQuote_any s w1 (by omega) (HT.out.below hb1) (HG.out.below hb1) (HU.out.below hb1))
  rw [← HLq.out] at C2
  have HR := Lib.hid hR
  clear hv1 ho hR
  go_wp2_with fail
  refine C2.out.mono ?_
  rintro e w2 ⟨rfl, hw2⟩
  have hb2 : Below w.heap.size w w2 := hb1.trans (hw2.mono hb1.size)
  have hR := HR.out
  have hT2 := HT.out.below hb2
  have hG2 := HG.out.below hb2
  have hv := HV.out
  have hR2 : Reads w2 w2.heap.size 1 A (elemsOf s).length (icells (elemsOf s)) := (hR.below hw2).more hw2.size
  have C3 := Lib.hid (prints_any A c (elemsOf s) false w2 hR2 hv (by have := elemsOf_length s; omega) hT2)
  have HR2 := Lib.hid hR2
  clear hR hT2 hG2 hv hR2
  go_wp2_with fail
  refine C3.out.mono ?_
  rintro e w3 ⟨v3, rfl, ho3⟩
  obtain ⟨A3, c3, hv3, _, _, hR3⟩ := ho3.form
  rw [tcells_length, List.length_map] at hv3 hR3
  rw [hv3]
  have hb3 : Below w.heap.size w w3 := hb2.trans (ho3.isBelow.mono hb2.size)
  have C4 := Lib.hid (quoted_any A A3 c c3 (elemsOf s) (stP false) 34 w3 ((HR2.out.below ho3.isBelow).more ho3.isBelow.size) hR3 HV2.out (by omega) (.inl rfl))
  rw [← HLq.out] at C4
  clear hv3 hR3 ho3
  go_wp2_with fail
  refine C4.out.mono ?_
  rintro e w4 ⟨rfl, hw4⟩
  go_wp2
  go_ret
  exact ⟨by simp, hb3.trans (hw4.mono hb3.size)⟩
end Go.Proofs.YtpboiodigfdajaaDoor.fnQuote
