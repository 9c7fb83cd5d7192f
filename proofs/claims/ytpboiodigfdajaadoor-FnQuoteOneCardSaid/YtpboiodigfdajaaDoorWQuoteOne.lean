/-
  The walk of laws.FnQuoteOne: it returns true. Printed by wip/gen/qone.py.
-/
import Derived.Test.YtpboiodigfdajaaDoorQuotes
import Derived.Test.YtpboiodigfdajaaDoorQuoteRunes
import Derived.Test.YtpboiodigfdajaaDoorInner
import Derived.Test.YtpboiodigfdajaaDoorPlainQLaws
import Derived.Outline
namespace Go.Proofs.YtpboiodigfdajaaDoor.fnQuoteOne
open Go.RowKit
set_option maxRecDepth 100000
set_option linter.unusedVariables false
set_option linter.unusedSimpArgs false
theorem elem_q {b : Bool} {x : Int} (h1 : x ≠ 34) (h2 : x ≠ 39) : elemL 39 b x = elemL 34 b x := by
  unfold elemL
  by_cases h : x = 92
  · rw [if_pos (.inr h), if_pos (.inr h)]
  · rw [if_neg (show ¬ (x = 39 ∨ x = 92) by omega), if_neg (show ¬ (x = 34 ∨ x = 92) by omega)]
theorem flat_q {st : Int → Bool} {x : Int} (h1 : x ≠ 34) (h2 : x ≠ 39) : flatE 39 st [x] = flatE 34 st [x] := by simp [flatE, elem_q h1 h2]
theorem one_39 : quoteL 39 (stP false) [fixR 39] = [39, 92, 39, 39] := by
  have e : fixR 39 = 39 := by decide
  rw [e]; rfl
theorem one_34 : quoteL 39 (stP false) [fixR 34] = [39, 34, 39] := by
  have e : fixR 34 = 34 := by decide
  have h := (st_of_ascii (r := 34) (by omega) (by omega) false).1
  rw [e, quoteL]
  simp only [List.flatMap_cons, List.flatMap_nil, List.append_nil]
  rw [elemL, if_neg (by omega), if_pos h]; rfl
theorem text_39 : quoteL 34 (stP false) (elemsOf [39]) = [34, 39, 34] := quote_plain (l := [39]) (okP false).keeps (by decide)
theorem text_34 : quoteL 34 (stP false) (elemsOf [34]) = [34, 92, 34, 34] := by
  rw [elems_ascii [34] (by decide)]; rfl
set_option maxHeartbeats 4000000 in
theorem walk (w : World) (r : Int) (hr : (Lit.int .i32 r).wf = true) (hL : laidMetH Tryd.prog Rows.fnQuoteOneRow.laid w) :
    Calls Tryd.prog 14 #[.int .i32 r] w fun e w' => e = .returned (.bool true) ∧ Below w.heap.size w w' := by
  have hT : PrintT w := printT_of hL (by kernel_rfl) (by simp [Rows.fnQuoteOneRow, Rows.laid_strconv_isPrint16]) (by simp [Rows.fnQuoteOneRow, Rows.laid_strconv_isNotPrint16]) (by simp [Rows.fnQuoteOneRow, Rows.laid_strconv_isPrint32]) (by simp [Rows.fnQuoteOneRow, Rows.laid_strconv_isNotPrint32])
  have hG : GraphicT w := graphicT_of hL (by kernel_rfl) (by simp [Rows.fnQuoteOneRow, Rows.laid_strconv_isGraphic])
  have hU : Utf8T w := utf8T_of hL (by kernel_rfl) (by simp [Rows.fnQuoteOneRow, Rows.laid_unicode_utf8_first]) (by simp [Rows.fnQuoteOneRow, Rows.laid_unicode_utf8_acceptRanges]; kernel_rfl)
  have h0 : Below w.heap.size w w := Below.refl _ _
  by_cases hq : r = 39 ∨ r = 34
  · skip
    have R1 := Lib.hid (show ∀ wx, Below w.heap.size w wx → Calls Tryd.prog 29 #[.int .i32 39] wx fun e w' => e = .returned (.string ⟨#[39, 92, 39, 39]⟩) ∧ Below w.heap.size w w' from fun wx hb => (by have h := iQuoteRune_any 39 wx (hT.below hb) (hG.below hb); rw [one_39] at h; exact h.mono fun e w' ⟨h1, h2⟩ => ⟨h1, hb.trans (h2.mono hb.size)⟩))
    have R2 := Lib.hid (show ∀ wx, Below w.heap.size w wx → Calls Tryd.prog 29 #[.int .i32 34] wx fun e w' => e = .returned (.string ⟨#[39, 34, 39]⟩) ∧ Below w.heap.size w w' from fun wx hb => (by have h := iQuoteRune_any 34 wx (hT.below hb) (hG.below hb); rw [one_34] at h; exact h.mono fun e w' ⟨h1, h2⟩ => ⟨h1, hb.trans (h2.mono hb.size)⟩))
    have T1 := Lib.hid (show ∀ wx, Below w.heap.size w wx → Calls Tryd.prog 16 #[.string (str [39])] wx fun e w' => e = .returned (.string ⟨#[34, 39, 34]⟩) ∧ Below w.heap.size w w' from fun wx hb => (by have h := iQuote_any [39] wx (by simp) (hT.below hb) (hG.below hb) (hU.below hb); rw [text_39] at h; exact h.mono fun e w' ⟨h1, h2⟩ => ⟨h1, hb.trans (h2.mono hb.size)⟩))
    have T2 := Lib.hid (show ∀ wx, Below w.heap.size w wx → Calls Tryd.prog 16 #[.string (str [34])] wx fun e w' => e = .returned (.string ⟨#[34, 92, 34, 34]⟩) ∧ Below w.heap.size w w' from fun wx hb => (by have h := iQuote_any [34] wx (by simp) (hT.below hb) (hG.below hb) (hU.below hb); rw [text_34] at h; exact h.mono fun e w' ⟨h1, h2⟩ => ⟨h1, hb.trans (h2.mono hb.size)⟩))
    clear hL hT hG hU
    rcases hq with rfl | rfl
    all_goals
      go_enter Tryd.func14, Tryd.ntmps14
      go_wp2_with fail
      refine (R1.out _ h0).mono ?_
      rintro e w1 ⟨rfl, hb1⟩
      go_wp2_with fail
      refine (R2.out _ hb1).mono ?_
      rintro e w2 ⟨rfl, hb2⟩
      go_wp2_with fail
      refine (T1.out _ hb2).mono ?_
      rintro e w3 ⟨rfl, hb3⟩
      go_wp2_with fail
      refine (T2.out _ hb3).mono ?_
      rintro e w4 ⟨rfl, hb4⟩
      go_wp2_with fail
      go_ret
      exact ⟨by first | rfl | simp, hb4⟩
  have q1 : (r == 39) = false := by simp; omega
  have q2 : (r == 34) = false := by simp; omega
  obtain ⟨x, hx⟩ : ∃ x, x = fixR r := ⟨_, rfl⟩
  have hcp : isCP x = true := by rw [hx]; exact fixR_cp r
  have hxb := cp_bounds hcp
  have x34 : x ≠ 34 ∧ x ≠ 39 := by
    rw [hx, fixR]; split <;> omega
  have C1 := Lib.hid (one_any r w)
  rw [← hx] at C1
  have EN := Lib.hid (show ∀ wx, Below w.heap.size w wx → Calls Tryd.prog 30 #[.int .i32 x] wx fun e w' => e = .returned (.string (str (encL x))) ∧ Below w.heap.size w w' from fun wx hb => (encode_any x wx hxb.1 hxb.2.1).mono fun e w' ⟨h1, h2⟩ => ⟨h1, hb.trans (h2.mono hb.size)⟩)
  have hen := (encL_length x).2
  have RP := Lib.hid (show ∀ wx, Below w.heap.size w wx → Calls Tryd.prog 29 #[.int .i32 r] wx fun e w' => e = .returned (.string (str (quoteL 39 (stP false) [x]))) ∧ Below w.heap.size w w' from fun wx hb => (by have h := iQuoteRune_any r wx (hT.below hb) (hG.below hb); rw [← hx] at h; exact h.mono fun e w' ⟨h1, h2⟩ => ⟨h1, hb.trans (h2.mono hb.size)⟩))
  have QP := Lib.hid (show ∀ wx, Below w.heap.size w wx → Calls Tryd.prog 16 #[.string (str (encL x))] wx fun e w' => e = .returned (.string (str (quoteL 34 (stP false) [x]))) ∧ Below w.heap.size w w' from fun wx hb => (by have h := iQuote_any (encL x) wx (by omega) (hT.below hb) (hG.below hb) (hU.below hb); rw [elems_one hcp] at h; exact h.mono fun e w' ⟨h1, h2⟩ => ⟨h1, hb.trans (h2.mono hb.size)⟩))
  have nJP : 3 ≤ (quoteL 39 (stP false) [x]).length ∧ (quoteL 39 (stP false) [x]).length ≤ 100 := by have a := (elemL_length 39 ((stP false) x) x); simp [quoteL]; omega
  have JP := Lib.hid (show ∀ wx, Below w.heap.size w wx → Calls Tryd.prog 27 #[.string (str (quoteL 39 (stP false) [x]))] wx fun e w' => e = .returned (.string (str (flatE 34 (stP false) [x]))) ∧ Below w.heap.size w w' from fun wx hb => (by have h := inner_any (quoteL 39 (stP false) [x]) (by omega) (by omega) wx; rw [inner_quote, flat_q x34.1 x34.2] at h; exact h.mono fun e w' ⟨h1, h2⟩ => ⟨h1, by rw [← h2]; exact hb⟩))
  have nIP : 3 ≤ (quoteL 34 (stP false) [x]).length ∧ (quoteL 34 (stP false) [x]).length ≤ 100 := by have a := (elemL_length 34 ((stP false) x) x); simp [quoteL]; omega
  have IP := Lib.hid (show ∀ wx, Below w.heap.size w wx → Calls Tryd.prog 27 #[.string (str (quoteL 34 (stP false) [x]))] wx fun e w' => e = .returned (.string (str (flatE 34 (stP false) [x]))) ∧ Below w.heap.size w w' from fun wx hb => (by have h := inner_any (quoteL 34 (stP false) [x]) (by omega) (by omega) wx; rw [inner_quote] at h; exact h.mono fun e w' ⟨h1, h2⟩ => ⟨h1, by rw [← h2]; exact hb⟩))
  have RA := Lib.hid (show ∀ wx, Below w.heap.size w wx → Calls Tryd.prog 32 #[.int .i32 r] wx fun e w' => e = .returned (.string (str (quoteL 39 (stP true) [x]))) ∧ Below w.heap.size w w' from fun wx hb => (by have h := iQuoteRuneToASCII_any r wx (hT.below hb) (hG.below hb); rw [← hx] at h; exact h.mono fun e w' ⟨h1, h2⟩ => ⟨h1, hb.trans (h2.mono hb.size)⟩))
  have QA := Lib.hid (show ∀ wx, Below w.heap.size w wx → Calls Tryd.prog 19 #[.string (str (encL x))] wx fun e w' => e = .returned (.string (str (quoteL 34 (stP true) [x]))) ∧ Below w.heap.size w w' from fun wx hb => (by have h := iQuoteToASCII_any (encL x) wx (by omega) (hT.below hb) (hG.below hb) (hU.below hb); rw [elems_one hcp] at h; exact h.mono fun e w' ⟨h1, h2⟩ => ⟨h1, hb.trans (h2.mono hb.size)⟩))
  have nJA : 3 ≤ (quoteL 39 (stP true) [x]).length ∧ (quoteL 39 (stP true) [x]).length ≤ 100 := by have a := (elemL_length 39 ((stP true) x) x); simp [quoteL]; omega
  have JA := Lib.hid (show ∀ wx, Below w.heap.size w wx → Calls Tryd.prog 27 #[.string (str (quoteL 39 (stP true) [x]))] wx fun e w' => e = .returned (.string (str (flatE 34 (stP true) [x]))) ∧ Below w.heap.size w w' from fun wx hb => (by have h := inner_any (quoteL 39 (stP true) [x]) (by omega) (by omega) wx; rw [inner_quote, flat_q x34.1 x34.2] at h; exact h.mono fun e w' ⟨h1, h2⟩ => ⟨h1, by rw [← h2]; exact hb⟩))
  have nIA : 3 ≤ (quoteL 34 (stP true) [x]).length ∧ (quoteL 34 (stP true) [x]).length ≤ 100 := by have a := (elemL_length 34 ((stP true) x) x); simp [quoteL]; omega
  have IA := Lib.hid (show ∀ wx, Below w.heap.size w wx → Calls Tryd.prog 27 #[.string (str (quoteL 34 (stP true) [x]))] wx fun e w' => e = .returned (.string (str (flatE 34 (stP true) [x]))) ∧ Below w.heap.size w w' from fun wx hb => (by have h := inner_any (quoteL 34 (stP true) [x]) (by omega) (by omega) wx; rw [inner_quote] at h; exact h.mono fun e w' ⟨h1, h2⟩ => ⟨h1, by rw [← h2]; exact hb⟩))
  have RG := Lib.hid (show ∀ wx, Below w.heap.size w wx → Calls Tryd.prog 33 #[.int .i32 r] wx fun e w' => e = .returned (.string (str (quoteL 39 stG [x]))) ∧ Below w.heap.size w w' from fun wx hb => (by have h := iQuoteRuneToGraphic_any r wx (hT.below hb) (hG.below hb); rw [← hx] at h; exact h.mono fun e w' ⟨h1, h2⟩ => ⟨h1, hb.trans (h2.mono hb.size)⟩))
  have QG := Lib.hid (show ∀ wx, Below w.heap.size w wx → Calls Tryd.prog 20 #[.string (str (encL x))] wx fun e w' => e = .returned (.string (str (quoteL 34 stG [x]))) ∧ Below w.heap.size w w' from fun wx hb => (by have h := iQuoteToGraphic_any (encL x) wx (by omega) (hT.below hb) (hG.below hb) (hU.below hb); rw [elems_one hcp] at h; exact h.mono fun e w' ⟨h1, h2⟩ => ⟨h1, hb.trans (h2.mono hb.size)⟩))
  have nJG : 3 ≤ (quoteL 39 stG [x]).length ∧ (quoteL 39 stG [x]).length ≤ 100 := by have a := (elemL_length 39 (stG x) x); simp [quoteL]; omega
  have JG := Lib.hid (show ∀ wx, Below w.heap.size w wx → Calls Tryd.prog 27 #[.string (str (quoteL 39 stG [x]))] wx fun e w' => e = .returned (.string (str (flatE 34 stG [x]))) ∧ Below w.heap.size w w' from fun wx hb => (by have h := inner_any (quoteL 39 stG [x]) (by omega) (by omega) wx; rw [inner_quote, flat_q x34.1 x34.2] at h; exact h.mono fun e w' ⟨h1, h2⟩ => ⟨h1, by rw [← h2]; exact hb⟩))
  have nIG : 3 ≤ (quoteL 34 stG [x]).length ∧ (quoteL 34 stG [x]).length ≤ 100 := by have a := (elemL_length 34 (stG x) x); simp [quoteL]; omega
  have IG := Lib.hid (show ∀ wx, Below w.heap.size w wx → Calls Tryd.prog 27 #[.string (str (quoteL 34 stG [x]))] wx fun e w' => e = .returned (.string (str (flatE 34 stG [x]))) ∧ Below w.heap.size w w' from fun wx hb => (by have h := inner_any (quoteL 34 stG [x]) (by omega) (by omega) wx; rw [inner_quote] at h; exact h.mono fun e w' ⟨h1, h2⟩ => ⟨h1, by rw [← h2]; exact hb⟩))
  obtain ⟨E, hE⟩ : ∃ E, E = encL x := ⟨_, rfl⟩
  rw [← hE] at EN QP QA QG
  obtain ⟨P9, hP9⟩ : ∃ L, L = quoteL 39 (stP false) [x] := ⟨_, rfl⟩
  rw [← hP9] at RP JP nJP
  obtain ⟨P4, hP4⟩ : ∃ L, L = quoteL 34 (stP false) [x] := ⟨_, rfl⟩
  rw [← hP4] at QP IP nIP
  obtain ⟨PF, hPF⟩ : ∃ L, L = flatE 34 (stP false) [x] := ⟨_, rfl⟩
  rw [← hPF] at IP JP
  obtain ⟨A9, hA9⟩ : ∃ L, L = quoteL 39 (stP true) [x] := ⟨_, rfl⟩
  rw [← hA9] at RA JA nJA
  obtain ⟨A4, hA4⟩ : ∃ L, L = quoteL 34 (stP true) [x] := ⟨_, rfl⟩
  rw [← hA4] at QA IA nIA
  obtain ⟨AF, hAF⟩ : ∃ L, L = flatE 34 (stP true) [x] := ⟨_, rfl⟩
  rw [← hAF] at IA JA
  obtain ⟨G9, hG9⟩ : ∃ L, L = quoteL 39 stG [x] := ⟨_, rfl⟩
  rw [← hG9] at RG JG nJG
  obtain ⟨G4, hG4⟩ : ∃ L, L = quoteL 34 stG [x] := ⟨_, rfl⟩
  rw [← hG4] at QG IG nIG
  obtain ⟨GF, hGF⟩ : ∃ L, L = flatE 34 stG [x] := ⟨_, rfl⟩
  rw [← hGF] at IG JG
  obtain ⟨m, hm⟩ : ∃ m, m = P9.length := ⟨_, rfl⟩
  have eM : (str P9).size = m := by rw [size_str, hm]
  rw [← hm] at nJP
  have m3 := nJP.1
  have m4 := nJP.2
  clear hL hT hG hU hq hx hcp hxb x34 hen hE hm nJP nIP nJA nIA nJG nIG hP9 hP4 hPF hA9 hA4 hAF hG9 hG4 hGF
  go_enter Tryd.func14, Tryd.ntmps14
  go_wp2_with fail
  refine C1.out.mono ?_
  rintro e w1 ⟨v1, rfl, ho⟩
  obtain ⟨A1, c1, hv1, _, _, hR⟩ := ho.form
  have hv1' : v1 = .slice A1 1 c1 := hv1
  rw [hv1']
  have hb1 := ho.isBelow
  obtain ⟨ad, u, hA', hbk, hu, hcell⟩ := hR.at_ (k := 0) (by simp [icells])
  have hu' : u = .int .i32 x := by simp [icells] at hu; exact hu.symm
  subst hu' hA'
  have hcell2 : w1.cell? ad = some (.int .i32 x) := by simpa [Addr.add] using hcell
  clear hv1 hv1' ho hR hu
  go_wp2_with fail
  all_goals first | (exfalso; omega) | skip
  refine (EN.out _ hb1).mono ?_
  rintro e w2 ⟨rfl, hb2⟩
  go_wp2_with fail
  all_goals first | (exfalso; omega) | skip
  refine (RP.out _ hb2).mono ?_
  rintro e w3 ⟨rfl, hb3⟩
  go_wp2_with fail
  all_goals first | (exfalso; omega) | skip
  refine (JP.out _ hb3).mono ?_
  rintro e w4 ⟨rfl, hb4⟩
  go_wp2_with fail
  all_goals first | (exfalso; omega) | skip
  refine (QP.out _ hb4).mono ?_
  rintro e w5 ⟨rfl, hb5⟩
  go_wp2_with fail
  all_goals first | (exfalso; omega) | skip
  refine (IP.out _ hb5).mono ?_
  rintro e w6 ⟨rfl, hb6⟩
  go_wp2_with fail
  all_goals first | (exfalso; omega) | skip
  refine (RA.out _ hb6).mono ?_
  rintro e w7 ⟨rfl, hb7⟩
  go_wp2_with fail
  all_goals first | (exfalso; omega) | skip
  refine (JA.out _ hb7).mono ?_
  rintro e w8 ⟨rfl, hb8⟩
  go_wp2_with fail
  all_goals first | (exfalso; omega) | skip
  refine (QA.out _ hb8).mono ?_
  rintro e w9 ⟨rfl, hb9⟩
  go_wp2_with fail
  all_goals first | (exfalso; omega) | skip
  refine (IA.out _ hb9).mono ?_
  rintro e w10 ⟨rfl, hb10⟩
  go_wp2_with fail
  all_goals first | (exfalso; omega) | skip
  refine (RG.out _ hb10).mono ?_
  rintro e w11 ⟨rfl, hb11⟩
  go_wp2_with fail
  all_goals first | (exfalso; omega) | skip
  refine (JG.out _ hb11).mono ?_
  rintro e w12 ⟨rfl, hb12⟩
  go_wp2_with fail
  all_goals first | (exfalso; omega) | skip
  refine (QG.out _ hb12).mono ?_
  rintro e w13 ⟨rfl, hb13⟩
  go_wp2_with fail
  all_goals first | (exfalso; omega) | skip
  refine (IG.out _ hb13).mono ?_
  rintro e w14 ⟨rfl, hb14⟩
  go_wp2_with fail
  go_ret
  exact ⟨by simp, hb14⟩
end Go.Proofs.YtpboiodigfdajaaDoor.fnQuoteOne
