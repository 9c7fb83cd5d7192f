/-
  The walk of laws.FnGraphic: it returns true. Printed by wip/gen/graphic.py.
-/
import Derived.Test.YthbnglkpkgpojaaDoorQuotes
import Derived.Test.YthbnglkpkgpojaaDoorImplP
import Derived.Test.YthbnglkpkgpojaaDoorSpecEnc
import Derived.Test.YthbnglkpkgpojaaDoorCodePoint
import Derived.Test.YthbnglkpkgpojaaDoorPlainGraphic
import Derived.Outline
namespace Go.Proofs.YthbnglkpkgpojaaDoor.fnGraphic
open Go.RowKit
set_option maxRecDepth 100000
set_option linter.unusedVariables false
set_option linter.unusedSimpArgs false
theorem wf_i32 {a : Int} (h : (Lit.int .i32 a).wf = true) : -2147483648 ≤ a ∧ a ≤ 2147483647 := by
  simpa [Lit.wf, IntKind.min, IntKind.max, IntKind.signed, IntKind.bits] using h
theorem print_a : printB 97 = true := by
  have := print_ascii (r := 97) (by omega) (by omega)
  show Lib.isPrintR Lib.goPrintTabs 97 = true
  rw [this]; rfl
set_option maxHeartbeats 8000000 in
theorem walk (w : World) (r : Int) (hr : (Lit.int .i32 r).wf = true) (hL : laidMetH Tryd.prog Rows.fnGraphicRow.laid w) :
    Calls Tryd.prog 3 #[.int .i32 r] w fun e w' => e = .returned (.bool true) ∧ Below w.heap.size w w' := by
  obtain ⟨hr0, hr1⟩ := wf_i32 hr
  have hT : PrintT w := printT_of hL (by kernel_rfl) (by simp [Rows.fnGraphicRow, Rows.laid_strconv_isPrint16]) (by simp [Rows.fnGraphicRow, Rows.laid_strconv_isNotPrint16]) (by simp [Rows.fnGraphicRow, Rows.laid_strconv_isPrint32]) (by simp [Rows.fnGraphicRow, Rows.laid_strconv_isNotPrint32])
  have hG : GraphicT w := graphicT_of hL (by kernel_rfl) (by simp [Rows.fnGraphicRow, Rows.laid_strconv_isGraphic])
  have hU : Utf8T w := utf8T_of hL (by kernel_rfl) (by simp [Rows.fnGraphicRow, Rows.laid_unicode_utf8_first]) (by simp [Rows.fnGraphicRow, Rows.laid_unicode_utf8_acceptRanges]; kernel_rfl)
  have h0 : Below w.heap.size w w := Below.refl _ _
  by_cases hneg : r < 0
  · clear hL hT hG hU hr
    go_enter Tryd.func3, Tryd.ntmps3
    go_wp2_with fail
    go_ret
    exact ⟨rfl, h0⟩
  have IP := Lib.hid (show ∀ wx, Below w.heap.size w wx → Calls Tryd.prog 10 #[.int .i32 r] wx fun e w' => e = .returned (.bool (printB r)) ∧ Below w.heap.size w w' from fun wx hb => (ximplP r wx hr0 hr1 (hT.below hb)).mono fun e w' h => ⟨h.1, by obtain ⟨_, h2⟩ := h; obtain ⟨q, rfl⟩ := h2; exact hb.trans ((below_drewN wx q).mono hb.size)⟩)
  have IA := Lib.hid (show ∀ wx, Below w.heap.size w wx → Calls Tryd.prog 10 #[.int .i32 97] wx fun e w' => e = .returned (.bool (printB 97)) ∧ Below w.heap.size w w' from fun wx hb => (ximplP 97 wx (by omega) (by omega) (hT.below hb)).mono fun e w' h => ⟨h.1, by obtain ⟨_, h2⟩ := h; obtain ⟨q, rfl⟩ := h2; exact hb.trans ((below_drewN wx q).mono hb.size)⟩)
  have IG := Lib.hid (show ∀ wx, Below w.heap.size w wx → Calls Tryd.prog 11 #[.int .i32 r] wx fun e w' => e = .returned (.bool (printB r || inGraphic r)) ∧ Below w.heap.size w w' from fun wx hb => (ximplG r wx hr0 hr1 (hT.below hb) (hG.below hb)).mono fun e w' h => ⟨h.1, by obtain ⟨_, h2⟩ := h; obtain ⟨q, rfl⟩ := h2; exact hb.trans ((below_drewN wx q).mono hb.size)⟩)
  have CP := Lib.hid (show ∀ wx, Below w.heap.size w wx → Calls Tryd.prog 12 #[.int .i32 r] wx fun e w' => e = .returned (.bool (isCP r)) ∧ Below w.heap.size w w' from fun wx hb => (isCodePoint_any r wx).mono fun e w' h => ⟨h.1, by obtain ⟨_, h2⟩ := h; rw [← h2]; exact hb⟩)
  rw [print_a] at IA
  have f1 : printB r = true → isCP r = true := print_cp (by omega) hr1
  have f2 : inGraphic r = true → isCP r = true := graphic_cp (by omega)
  have f3 : r < 128 → inGraphic r = false := graphic_ascii (by omega)
  have hstP : stP false r = printB r := by simp [stP, printB]; omega
  have hstG : stG r = (printB r || inGraphic r) := by simp [stG, printB]; omega
  by_cases hcp : isCP r = true
  case neg =>
    have e1 : printB r = false := by cases h : printB r; rfl; exact absurd (f1 h) hcp
    have e2 : inGraphic r = false := by cases h : inGraphic r; rfl; exact absurd (f2 h) hcp
    have e3 : isCP r = false := by simpa using hcp
    rw [e1] at IP
    rw [e1, e2] at IG
    rw [e3] at CP
    simp only [Bool.or_self] at IG
    clear hL hT hG hU hr f1 f2 f3 hstP hstG hcp e1 e2 e3
    by_cases h128 : r < 128
    · skip
      go_enter Tryd.func3, Tryd.ntmps3
      go_wp2_with fail
      all_goals first | (exfalso; omega) | skip
      refine (IP.out _ h0).mono ?_
      rintro e w1 ⟨rfl, hb1⟩
      go_wp2_with fail
      all_goals first | (exfalso; omega) | skip
      refine (IG.out _ hb1).mono ?_
      rintro e w2 ⟨rfl, hb2⟩
      go_wp2_with fail
      all_goals first | (exfalso; omega) | skip
      refine (IA.out _ hb2).mono ?_
      rintro e w3 ⟨rfl, hb3⟩
      go_wp2_with fail
      all_goals first | (exfalso; omega) | skip
      refine (CP.out _ hb3).mono ?_
      rintro e w4 ⟨rfl, hb4⟩
      go_wp2_with fail
      all_goals first | (exfalso; omega) | skip
      go_ret
      exact ⟨by first | rfl | simp, hb4⟩
    · skip
      go_enter Tryd.func3, Tryd.ntmps3
      go_wp2_with fail
      all_goals first | (exfalso; omega) | skip
      refine (IP.out _ h0).mono ?_
      rintro e w1 ⟨rfl, hb1⟩
      go_wp2_with fail
      all_goals first | (exfalso; omega) | skip
      refine (IG.out _ hb1).mono ?_
      rintro e w2 ⟨rfl, hb2⟩
      go_wp2_with fail
      all_goals first | (exfalso; omega) | skip
      refine (IA.out _ hb2).mono ?_
      rintro e w3 ⟨rfl, hb3⟩
      go_wp2_with fail
      all_goals first | (exfalso; omega) | skip
      refine (CP.out _ hb3).mono ?_
      rintro e w4 ⟨rfl, hb4⟩
      go_wp2_with fail
      all_goals first | (exfalso; omega) | skip
      go_ret
      exact ⟨by first | rfl | simp, hb4⟩
  rw [hcp] at CP
  have hb := cp_bounds hcp
  clear f1 f2
  have EN := Lib.hid (show ∀ wx, Below w.heap.size w wx → Calls Tryd.prog 13 #[.int .i32 r] wx fun e w' => e = .returned (.string (str (encL r))) ∧ Below w.heap.size w w' from fun wx hx => (encode_any r wx hb.1 hb.2.1).mono fun e w' h => ⟨h.1, by obtain ⟨_, h2⟩ := h; exact hx.trans (h2.mono hx.size)⟩)
  have hen := (encL_length r).2
  have QP := Lib.hid (show ∀ wx, Below w.heap.size w wx → Calls Tryd.prog 14 #[.string (str (encL r))] wx fun e w' => e = .returned (.string (str (quoteL 34 (stP false) (elemsOf (encL r))))) ∧ Below w.heap.size w w' from fun wx hb => (iQuote_any (encL r) wx (by omega) (hT.below hb) (hG.below hb) (hU.below hb)).mono fun e w' h => ⟨h.1, by obtain ⟨_, h2⟩ := h; exact hb.trans (h2.mono hb.size)⟩)
  have QG := Lib.hid (show ∀ wx, Below w.heap.size w wx → Calls Tryd.prog 15 #[.string (str (encL r))] wx fun e w' => e = .returned (.string (str (quoteL 34 stG (elemsOf (encL r))))) ∧ Below w.heap.size w w' from fun wx hb => (iQuoteToGraphic_any (encL r) wx (by omega) (hT.below hb) (hG.below hb) (hU.below hb)).mono fun e w' h => ⟨h.1, by obtain ⟨_, h2⟩ := h; exact hb.trans (h2.mono hb.size)⟩)
  have sP := fun (h1 : r ≠ 34) (h2 : r ≠ 92) => quote_same (st := stP false) hcp h1 h2
  have sG := fun (h1 : r ≠ 34) (h2 : r ≠ 92) => quote_same (st := stG) hcp h1 h2
  rw [hstP] at sP
  rw [hstG] at sG
  obtain ⟨s, hs⟩ : ∃ s, s = encL r := ⟨_, rfl⟩
  rw [← hs] at EN QP QG sP sG hen
  obtain ⟨P, hP⟩ : ∃ L, L = quoteL 34 (stP false) (elemsOf s) := ⟨_, rfl⟩
  rw [← hP] at QP sP
  obtain ⟨G, hGL⟩ : ∃ L, L = quoteL 34 stG (elemsOf s) := ⟨_, rfl⟩
  rw [← hGL] at QG sG
  obtain ⟨n, hn⟩ : ∃ n, n = s.length := ⟨_, rfl⟩
  have eS : (str s).size = n := by rw [size_str, hn]
  rw [← hn] at hen
  have c1 : (ByteArray.mk #[34]) ++ str s = str (34 :: s) := str_append [34] s
  have c2 : str (34 :: s) ++ (ByteArray.mk #[34]) = str (34 :: (s ++ [34])) := str_append (34 :: s) [34]
  have z1 : ¬ 9223372036854775807 < (str [34]).size + (str s).size := by rw [size_str, eS]; simp; omega
  have z1' : ¬ 9223372036854775807 < (str [34]).size + n := by rw [size_str]; simp; omega
  have z2 : ¬ 9223372036854775807 < (str (34 :: s)).size + (str [34]).size := by rw [size_str, size_str]; simp; omega
  obtain ⟨X, hX⟩ : ∃ X, X = 34 :: s := ⟨_, rfl⟩
  obtain ⟨Y, hY⟩ : ∃ Y, Y = 34 :: (s ++ [34]) := ⟨_, rfl⟩
  rw [← hX] at c1 c2 z2
  rw [← hY] at c2 sP sG
  have fP : (str P).toList = P := by rw [Lib.toList_data]; rfl
  have fG : (str G).toList = G := by rw [Lib.toList_data]; rfl
  have fY : (str Y).toList = Y := by rw [Lib.toList_data]; rfl
  clear hL hT hG hU hr hstP hstG hs hP hGL hn hX hY hcp hb
  cases ep : printB r
  · rw [ep] at IP IG sP sG
    cases eg : inGraphic r
    · rw [eg] at IG sG
      simp only [Bool.or_self] at IG sG
      clear ep eg f3
      by_cases hq34 : r = 34
      · subst hq34
        clear sP sG fP fG fY c1 c2 z1 z1' z2 EN QP QG eS
        go_enter Tryd.func3, Tryd.ntmps3
        go_wp2_with fail
        all_goals first | (exfalso; omega) | skip
        refine (IP.out _ h0).mono ?_
        rintro e w1 ⟨rfl, hb1⟩
        go_wp2_with fail
        all_goals first | (exfalso; omega) | skip
        refine (IG.out _ hb1).mono ?_
        rintro e w2 ⟨rfl, hb2⟩
        go_wp2_with fail
        all_goals first | (exfalso; omega) | skip
        refine (IA.out _ hb2).mono ?_
        rintro e w3 ⟨rfl, hb3⟩
        go_wp2_with fail
        all_goals first | (exfalso; omega) | skip
        refine (CP.out _ hb3).mono ?_
        rintro e w4 ⟨rfl, hb4⟩
        go_wp2_with fail
        all_goals first | (exfalso; omega) | skip
        go_ret
        exact ⟨by first | rfl | simp, hb4⟩
      by_cases hq92 : r = 92
      · subst hq92
        clear sP sG fP fG fY c1 c2 z1 z1' z2 EN QP QG eS
        go_enter Tryd.func3, Tryd.ntmps3
        go_wp2_with fail
        all_goals first | (exfalso; omega) | skip
        refine (IP.out _ h0).mono ?_
        rintro e w1 ⟨rfl, hb1⟩
        go_wp2_with fail
        all_goals first | (exfalso; omega) | skip
        refine (IG.out _ hb1).mono ?_
        rintro e w2 ⟨rfl, hb2⟩
        go_wp2_with fail
        all_goals first | (exfalso; omega) | skip
        refine (IA.out _ hb2).mono ?_
        rintro e w3 ⟨rfl, hb3⟩
        go_wp2_with fail
        all_goals first | (exfalso; omega) | skip
        refine (CP.out _ hb3).mono ?_
        rintro e w4 ⟨rfl, hb4⟩
        go_wp2_with fail
        all_goals first | (exfalso; omega) | skip
        go_ret
        exact ⟨by first | rfl | simp, hb4⟩
      have tP := sP hq34 hq92
      have tG := sG hq34 hq92
      have q34 : (r == 34) = false := by simpa using hq34
      have q92 : (r == 92) = false := by simpa using hq92
      clear sP sG hq34 hq92
      by_cases h128 : r < 128
      · skip
        go_enter Tryd.func3, Tryd.ntmps3
        go_wp2_with fail
        all_goals first | (exfalso; omega) | skip
        refine (IP.out _ h0).mono ?_
        rintro e w1 ⟨rfl, hb1⟩
        go_wp2_with fail
        all_goals first | (exfalso; omega) | skip
        refine (IG.out _ hb1).mono ?_
        rintro e w2 ⟨rfl, hb2⟩
        go_wp2_with fail
        all_goals first | (exfalso; omega) | skip
        refine (IA.out _ hb2).mono ?_
        rintro e w3 ⟨rfl, hb3⟩
        go_wp2_with fail
        all_goals first | (exfalso; omega) | skip
        refine (CP.out _ hb3).mono ?_
        rintro e w4 ⟨rfl, hb4⟩
        go_wp2_with fail
        all_goals first | (exfalso; omega) | skip
        refine (EN.out _ hb4).mono ?_
        rintro e w5 ⟨rfl, hb5⟩
        go_wp2_with fail
        all_goals first | (exfalso; omega) | skip
        refine (QP.out _ hb5).mono ?_
        rintro e w6 ⟨rfl, hb6⟩
        go_wp2_with fail
        all_goals first | (exfalso; omega) | skip
        refine (QG.out _ hb6).mono ?_
        rintro e w7 ⟨rfl, hb7⟩
        go_wp2_with fail
        all_goals first | (exfalso; omega) | skip
        go_ret
        exact ⟨by first | rfl | simp, hb7⟩
      · skip
        go_enter Tryd.func3, Tryd.ntmps3
        go_wp2_with fail
        all_goals first | (exfalso; omega) | skip
        refine (IP.out _ h0).mono ?_
        rintro e w1 ⟨rfl, hb1⟩
        go_wp2_with fail
        all_goals first | (exfalso; omega) | skip
        refine (IG.out _ hb1).mono ?_
        rintro e w2 ⟨rfl, hb2⟩
        go_wp2_with fail
        all_goals first | (exfalso; omega) | skip
        refine (IA.out _ hb2).mono ?_
        rintro e w3 ⟨rfl, hb3⟩
        go_wp2_with fail
        all_goals first | (exfalso; omega) | skip
        refine (CP.out _ hb3).mono ?_
        rintro e w4 ⟨rfl, hb4⟩
        go_wp2_with fail
        all_goals first | (exfalso; omega) | skip
        refine (EN.out _ hb4).mono ?_
        rintro e w5 ⟨rfl, hb5⟩
        go_wp2_with fail
        all_goals first | (exfalso; omega) | skip
        refine (QP.out _ hb5).mono ?_
        rintro e w6 ⟨rfl, hb6⟩
        go_wp2_with fail
        all_goals first | (exfalso; omega) | skip
        refine (QG.out _ hb6).mono ?_
        rintro e w7 ⟨rfl, hb7⟩
        go_wp2_with fail
        all_goals first | (exfalso; omega) | skip
        go_ret
        exact ⟨by first | rfl | simp, hb7⟩
    · rw [eg] at IG sG
      have h128 : ¬ r < 128 := fun h => by rw [f3 h] at eg; cases eg
      simp only [Bool.or_true] at IG sG
      clear ep eg f3
      by_cases hq34 : r = 34
      · exfalso; omega
      by_cases hq92 : r = 92
      · exfalso; omega
      have tP := sP hq34 hq92
      have tG := sG hq34 hq92
      have q34 : (r == 34) = false := by simpa using hq34
      have q92 : (r == 92) = false := by simpa using hq92
      obtain rfl : G = Y := by simpa using tG
      clear sP sG hq34 hq92
      go_enter Tryd.func3, Tryd.ntmps3
      go_wp2_with fail
      all_goals first | (exfalso; omega) | skip
      refine (IP.out _ h0).mono ?_
      rintro e w1 ⟨rfl, hb1⟩
      go_wp2_with fail
      all_goals first | (exfalso; omega) | skip
      refine (IG.out _ hb1).mono ?_
      rintro e w2 ⟨rfl, hb2⟩
      go_wp2_with fail
      all_goals first | (exfalso; omega) | skip
      refine (CP.out _ hb2).mono ?_
      rintro e w3 ⟨rfl, hb3⟩
      go_wp2_with fail
      all_goals first | (exfalso; omega) | skip
      refine (IA.out _ hb3).mono ?_
      rintro e w4 ⟨rfl, hb4⟩
      go_wp2_with fail
      all_goals first | (exfalso; omega) | skip
      refine (CP.out _ hb4).mono ?_
      rintro e w5 ⟨rfl, hb5⟩
      go_wp2_with fail
      all_goals first | (exfalso; omega) | skip
      refine (EN.out _ hb5).mono ?_
      rintro e w6 ⟨rfl, hb6⟩
      go_wp2_with fail
      all_goals first | (exfalso; omega) | skip
      refine (QP.out _ hb6).mono ?_
      rintro e w7 ⟨rfl, hb7⟩
      go_wp2_with fail
      all_goals first | (exfalso; omega) | skip
      refine (QG.out _ hb7).mono ?_
      rintro e w8 ⟨rfl, hb8⟩
      go_wp2_with fail
      all_goals first | (exfalso; omega) | skip
      go_ret
      exact ⟨by first | rfl | simp, hb8⟩
  · rw [ep] at IP IG sP sG
    simp only [Bool.true_or] at IG sG
    clear ep f3
    by_cases hq34 : r = 34
    · subst hq34
      clear sP sG fP fG fY c1 c2 z1 z1' z2 EN QP QG eS
      go_enter Tryd.func3, Tryd.ntmps3
      go_wp2_with fail
      all_goals first | (exfalso; omega) | skip
      refine (IP.out _ h0).mono ?_
      rintro e w1 ⟨rfl, hb1⟩
      go_wp2_with fail
      all_goals first | (exfalso; omega) | skip
      refine (IG.out _ hb1).mono ?_
      rintro e w2 ⟨rfl, hb2⟩
      go_wp2_with fail
      all_goals first | (exfalso; omega) | skip
      refine (CP.out _ hb2).mono ?_
      rintro e w3 ⟨rfl, hb3⟩
      go_wp2_with fail
      all_goals first | (exfalso; omega) | skip
      refine (CP.out _ hb3).mono ?_
      rintro e w4 ⟨rfl, hb4⟩
      go_wp2_with fail
      all_goals first | (exfalso; omega) | skip
      refine (IA.out _ hb4).mono ?_
      rintro e w5 ⟨rfl, hb5⟩
      go_wp2_with fail
      all_goals first | (exfalso; omega) | skip
      refine (CP.out _ hb5).mono ?_
      rintro e w6 ⟨rfl, hb6⟩
      go_wp2_with fail
      all_goals first | (exfalso; omega) | skip
      go_ret
      exact ⟨by first | rfl | simp, hb6⟩
    by_cases hq92 : r = 92
    · subst hq92
      clear sP sG fP fG fY c1 c2 z1 z1' z2 EN QP QG eS
      go_enter Tryd.func3, Tryd.ntmps3
      go_wp2_with fail
      all_goals first | (exfalso; omega) | skip
      refine (IP.out _ h0).mono ?_
      rintro e w1 ⟨rfl, hb1⟩
      go_wp2_with fail
      all_goals first | (exfalso; omega) | skip
      refine (IG.out _ hb1).mono ?_
      rintro e w2 ⟨rfl, hb2⟩
      go_wp2_with fail
      all_goals first | (exfalso; omega) | skip
      refine (CP.out _ hb2).mono ?_
      rintro e w3 ⟨rfl, hb3⟩
      go_wp2_with fail
      all_goals first | (exfalso; omega) | skip
      refine (CP.out _ hb3).mono ?_
      rintro e w4 ⟨rfl, hb4⟩
      go_wp2_with fail
      all_goals first | (exfalso; omega) | skip
      refine (IA.out _ hb4).mono ?_
      rintro e w5 ⟨rfl, hb5⟩
      go_wp2_with fail
      all_goals first | (exfalso; omega) | skip
      refine (CP.out _ hb5).mono ?_
      rintro e w6 ⟨rfl, hb6⟩
      go_wp2_with fail
      all_goals first | (exfalso; omega) | skip
      go_ret
      exact ⟨by first | rfl | simp, hb6⟩
    have tP := sP hq34 hq92
    have tG := sG hq34 hq92
    have q34 : (r == 34) = false := by simpa using hq34
    have q92 : (r == 92) = false := by simpa using hq92
    obtain rfl : P = Y := by simpa using tP
    obtain rfl : G = P := by simpa using tG
    clear sP sG hq34 hq92
    by_cases h128 : r < 128
    · skip
      go_enter Tryd.func3, Tryd.ntmps3
      go_wp2_with fail
      all_goals first | (exfalso; omega) | skip
      refine (IP.out _ h0).mono ?_
      rintro e w1 ⟨rfl, hb1⟩
      go_wp2_with fail
      all_goals first | (exfalso; omega) | skip
      refine (IG.out _ hb1).mono ?_
      rintro e w2 ⟨rfl, hb2⟩
      go_wp2_with fail
      all_goals first | (exfalso; omega) | skip
      refine (CP.out _ hb2).mono ?_
      rintro e w3 ⟨rfl, hb3⟩
      go_wp2_with fail
      all_goals first | (exfalso; omega) | skip
      refine (CP.out _ hb3).mono ?_
      rintro e w4 ⟨rfl, hb4⟩
      go_wp2_with fail
      all_goals first | (exfalso; omega) | skip
      refine (IA.out _ hb4).mono ?_
      rintro e w5 ⟨rfl, hb5⟩
      go_wp2_with fail
      all_goals first | (exfalso; omega) | skip
      refine (CP.out _ hb5).mono ?_
      rintro e w6 ⟨rfl, hb6⟩
      go_wp2_with fail
      all_goals first | (exfalso; omega) | skip
      refine (EN.out _ hb6).mono ?_
      rintro e w7 ⟨rfl, hb7⟩
      go_wp2_with fail
      all_goals first | (exfalso; omega) | skip
      refine (QP.out _ hb7).mono ?_
      rintro e w8 ⟨rfl, hb8⟩
      go_wp2_with fail
      all_goals first | (exfalso; omega) | skip
      refine (QG.out _ hb8).mono ?_
      rintro e w9 ⟨rfl, hb9⟩
      go_wp2_with fail
      all_goals first | (exfalso; omega) | skip
      go_ret
      exact ⟨by first | rfl | simp, hb9⟩
    · skip
      go_enter Tryd.func3, Tryd.ntmps3
      go_wp2_with fail
      all_goals first | (exfalso; omega) | skip
      refine (IP.out _ h0).mono ?_
      rintro e w1 ⟨rfl, hb1⟩
      go_wp2_with fail
      all_goals first | (exfalso; omega) | skip
      refine (IG.out _ hb1).mono ?_
      rintro e w2 ⟨rfl, hb2⟩
      go_wp2_with fail
      all_goals first | (exfalso; omega) | skip
      refine (CP.out _ hb2).mono ?_
      rintro e w3 ⟨rfl, hb3⟩
      go_wp2_with fail
      all_goals first | (exfalso; omega) | skip
      refine (CP.out _ hb3).mono ?_
      rintro e w4 ⟨rfl, hb4⟩
      go_wp2_with fail
      all_goals first | (exfalso; omega) | skip
      refine (IA.out _ hb4).mono ?_
      rintro e w5 ⟨rfl, hb5⟩
      go_wp2_with fail
      all_goals first | (exfalso; omega) | skip
      refine (CP.out _ hb5).mono ?_
      rintro e w6 ⟨rfl, hb6⟩
      go_wp2_with fail
      all_goals first | (exfalso; omega) | skip
      refine (EN.out _ hb6).mono ?_
      rintro e w7 ⟨rfl, hb7⟩
      go_wp2_with fail
      all_goals first | (exfalso; omega) | skip
      refine (QP.out _ hb7).mono ?_
      rintro e w8 ⟨rfl, hb8⟩
      go_wp2_with fail
      all_goals first | (exfalso; omega) | skip
      refine (QG.out _ hb8).mono ?_
      rintro e w9 ⟨rfl, hb9⟩
      go_wp2_with fail
      all_goals first | (exfalso; omega) | skip
      go_ret
      exact ⟨by first | rfl | simp, hb9⟩
end Go.Proofs.YthbnglkpkgpojaaDoor.fnGraphic
