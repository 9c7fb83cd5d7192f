/-
  The walk of laws.FnQuoteRuneToASCII: it returns true.
-/
import Derived.Test.YtjipihlnebnjjaaDoorQuoteRunes
namespace Go.Proofs.YtjipihlnebnjjaaDoor.fnQuoteRuneToASCII
open Go.RowKit
set_option linter.unusedVariables false
set_option maxHeartbeats 1000000 in
theorem walk (w : World) (r : Int) (hr : (Lit.int .i32 r).wf = true) (hL : laidMetH Tryd.prog Rows.fnQuoteRuneToASCIIRow.laid w) :
    Calls Tryd.prog 4 #[.int .i32 r] w fun e w' => e = .returned (.bool true) ∧ Below w.heap.size w w' := by
  have hT : PrintT w := printT_of hL (by kernel_rfl) (by simp [Rows.fnQuoteRuneToASCIIRow, Rows.laid_strconv_isPrint16]) (by simp [Rows.fnQuoteRuneToASCIIRow, Rows.laid_strconv_isNotPrint16]) (by simp [Rows.fnQuoteRuneToASCIIRow, Rows.laid_strconv_isPrint32]) (by simp [Rows.fnQuoteRuneToASCIIRow, Rows.laid_strconv_isNotPrint32])
  have hG : GraphicT w := graphicT_of hL (by kernel_rfl) (by simp [Rows.fnQuoteRuneToASCIIRow, Rows.laid_strconv_isGraphic])
  have hv : ∀ x ∈ [fixR r], -2147483648 ≤ x ∧ x ≤ 2147483647 := fun x hx => by
    have := fixR_bounds r
    simp at hx; subst hx; omega
  have hv2 : ∀ x ∈ [fixR r], -256 ≤ x ∧ x ≤ 1114111 ∧ ((stP true) x = true → 0 ≤ x) := fun x hx => by
    have := fixR_bounds r
    simp at hx; subst hx; omega
  have C1 := Lib.hid (one_any r w)
  have HT := Lib.hid hT
  have HG := Lib.hid hG
  have HV := Lib.hid hv
  have HV2 := Lib.hid hv2
  obtain ⟨L, hLq⟩ : ∃ L, L = quoteL 39 (stP true) [fixR r] := ⟨_, rfl⟩
  have HLq := Lib.hid hLq
  clear hL hT hG hr hv hv2 hLq
  go_enter Tryd.func4, Tryd.ntmps4
  go_wp2_with fail
  refine C1.out.mono ?_
  rintro e w1 ⟨v1, rfl, ho⟩
  obtain ⟨A, c, hv1, _, _, hR⟩ := ho.form
  rw [hv1]
  have hb1 := ho.isBelow
  have C2 := Lib.hid (iQuoteRuneToASCII_any r w1 (HT.out.below hb1) (HG.out.below hb1))
  rw [← HLq.out] at C2
  have HR := Lib.hid hR
  clear hv1 ho hR
  go_wp2_with fail
  refine C2.out.mono ?_
  rintro e w2 ⟨rfl, hw2⟩
  have hb2 : Below w.heap.size w w2 := hb1.trans (hw2.mono hb1.size)
  have hR := HR.out
  have hT2 := HT.out.below hb2
  have hG2 := HG.out.below hb2
  have hv := HV.out
  have hR2 : Reads w2 w2.heap.size 1 A 1 (icells [fixR r]) := (hR.below hw2).more hw2.size
  have C3 := Lib.hid (prints_any A c [fixR r] true w2 hR2 hv (by simp) hT2)
  have HR2 := Lib.hid hR2
  clear hR hT2 hG2 hv hR2
  go_wp2_with fail
  refine C3.out.mono ?_
  rintro e w3 ⟨v3, rfl, ho3⟩
  obtain ⟨A3, c3, hv3, _, _, hR3⟩ := ho3.form
  rw [hv3]
  have hb3 : Below w.heap.size w w3 := hb2.trans (ho3.isBelow.mono hb2.size)
  have C4 := Lib.hid (quoted_any A A3 c c3 [fixR r] (stP true) 39 w3 ((HR2.out.below ho3.isBelow).more ho3.isBelow.size) hR3 HV2.out (by simp) (.inr rfl))
  rw [← HLq.out] at C4
  clear hv3 hR3 ho3
  go_wp2_with fail
  refine C4.out.mono ?_
  rintro e w4 ⟨rfl, hw4⟩
  go_wp2
  go_ret
  exact ⟨by simp, hb3.trans (hw4.mono hb3.size)⟩
end Go.Proofs.YtjipihlnebnjjaaDoor.fnQuoteRuneToASCII
