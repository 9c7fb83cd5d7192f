/-
  The walk of laws.FnQuoteParts: it returns true. Printed by wip/gen/qlaws.py.
-/
import Derived.Test.YtpboiodigfdajaaDoorQuotes
import Derived.Test.YtpboiodigfdajaaDoorPlainQLaws
import Derived.Test.YtpboiodigfdajaaDoorStrWords
import Derived.Test.YtpboiodigfdajaaDoorInner
import Derived.Outline
namespace Go.Proofs.YtpboiodigfdajaaDoor.fnQuoteParts
open Go.RowKit
set_option maxRecDepth 100000
set_option linter.unusedVariables false
set_option linter.unusedSimpArgs false
set_option maxHeartbeats 8000000 in
theorem walk (w : World) (a : ByteArray) (ha : a.size ≤ 1048576) (b : ByteArray) (hb : b.size ≤ 1048576) (hL : laidMetH Tryd.prog Rows.fnQuotePartsUptoRow.laid w) :
    Calls Tryd.prog 13 #[.string a, .string b] w fun e w' => e = .returned (.bool true) ∧ Below w.heap.size w w' := by
  have hT : PrintT w := printT_of hL (by kernel_rfl) (by simp [Rows.fnQuotePartsUptoRow, Rows.laid_strconv_isPrint16]) (by simp [Rows.fnQuotePartsUptoRow, Rows.laid_strconv_isNotPrint16]) (by simp [Rows.fnQuotePartsUptoRow, Rows.laid_strconv_isPrint32]) (by simp [Rows.fnQuotePartsUptoRow, Rows.laid_strconv_isNotPrint32])
  have hG : GraphicT w := graphicT_of hL (by kernel_rfl) (by simp [Rows.fnQuotePartsUptoRow, Rows.laid_strconv_isGraphic])
  have hU : Utf8T w := utf8T_of hL (by kernel_rfl) (by simp [Rows.fnQuotePartsUptoRow, Rows.laid_unicode_utf8_first]) (by simp [Rows.fnQuotePartsUptoRow, Rows.laid_unicode_utf8_acceptRanges]; kernel_rfl)
  obtain ⟨s, rfl⟩ : ∃ s, a = str s := ⟨a.data.toList, (str_toList a).symm⟩
  obtain ⟨t, rfl⟩ : ∃ s, b = str s := ⟨b.data.toList, (str_toList b).symm⟩
  rw [size_str] at ha hb
  have IT := Lib.hid (isText_any s w (by omega))
  cases htx : textB s
  · rw [htx] at IT
    clear hL hT hG hU htx
    go_enter Tryd.func13, Tryd.ntmps13
    go_wp2_with (go_at_call 28; refine IT.out.mono ?_; rintro e w1 ⟨rfl, hw1⟩)
    go_ret
    exact ⟨rfl, hw1⟩
  rw [htx] at IT
  have hel := elems_append s t (textB_iff.1 htx)
  obtain ⟨u, hu⟩ : ∃ u, u = s ++ t := ⟨_, rfl⟩
  have ul : u.length ≤ 2097152 := by rw [hu, List.length_append]; omega
  have cu : str s ++ str t = str u := by rw [hu]; exact str_append s t
  have zu : ¬ 9223372036854775807 < (str s).size + (str t).size := by rw [size_str, size_str]; omega
  rw [← hu] at hel
  have CPs := Lib.hid (show ∀ wx, Below w.heap.size w wx → Calls Tryd.prog 16 #[.string (str s)] wx fun e w' => e = .returned (.string (str (quoteL 34 (stP false) (elemsOf s)))) ∧ Below w.heap.size w w' from fun wx hb => (iQuote_any s wx (by omega) (hT.below hb) (hG.below hb) (hU.below hb)).mono fun e w' ⟨h1, h2⟩ => ⟨h1, hb.trans (h2.mono hb.size)⟩)
  have CPt := Lib.hid (show ∀ wx, Below w.heap.size w wx → Calls Tryd.prog 16 #[.string (str t)] wx fun e w' => e = .returned (.string (str (quoteL 34 (stP false) (elemsOf t)))) ∧ Below w.heap.size w w' from fun wx hb => (iQuote_any t wx (by omega) (hT.below hb) (hG.below hb) (hU.below hb)).mono fun e w' ⟨h1, h2⟩ => ⟨h1, hb.trans (h2.mono hb.size)⟩)
  have CPu := Lib.hid (show ∀ wx, Below w.heap.size w wx → Calls Tryd.prog 16 #[.string (str u)] wx fun e w' => e = .returned (.string (str (quoteL 34 (stP false) (elemsOf u)))) ∧ Below w.heap.size w w' from fun wx hb => (iQuote_any u wx (by omega) (hT.below hb) (hG.below hb) (hU.below hb)).mono fun e w' ⟨h1, h2⟩ => ⟨h1, hb.trans (h2.mono hb.size)⟩)
  have CAs := Lib.hid (show ∀ wx, Below w.heap.size w wx → Calls Tryd.prog 19 #[.string (str s)] wx fun e w' => e = .returned (.string (str (quoteL 34 (stP true) (elemsOf s)))) ∧ Below w.heap.size w w' from fun wx hb => (iQuoteToASCII_any s wx (by omega) (hT.below hb) (hG.below hb) (hU.below hb)).mono fun e w' ⟨h1, h2⟩ => ⟨h1, hb.trans (h2.mono hb.size)⟩)
  have CAt := Lib.hid (show ∀ wx, Below w.heap.size w wx → Calls Tryd.prog 19 #[.string (str t)] wx fun e w' => e = .returned (.string (str (quoteL 34 (stP true) (elemsOf t)))) ∧ Below w.heap.size w w' from fun wx hb => (iQuoteToASCII_any t wx (by omega) (hT.below hb) (hG.below hb) (hU.below hb)).mono fun e w' ⟨h1, h2⟩ => ⟨h1, hb.trans (h2.mono hb.size)⟩)
  have CAu := Lib.hid (show ∀ wx, Below w.heap.size w wx → Calls Tryd.prog 19 #[.string (str u)] wx fun e w' => e = .returned (.string (str (quoteL 34 (stP true) (elemsOf u)))) ∧ Below w.heap.size w w' from fun wx hb => (iQuoteToASCII_any u wx (by omega) (hT.below hb) (hG.below hb) (hU.below hb)).mono fun e w' ⟨h1, h2⟩ => ⟨h1, hb.trans (h2.mono hb.size)⟩)
  have CGs := Lib.hid (show ∀ wx, Below w.heap.size w wx → Calls Tryd.prog 20 #[.string (str s)] wx fun e w' => e = .returned (.string (str (quoteL 34 stG (elemsOf s)))) ∧ Below w.heap.size w w' from fun wx hb => (iQuoteToGraphic_any s wx (by omega) (hT.below hb) (hG.below hb) (hU.below hb)).mono fun e w' ⟨h1, h2⟩ => ⟨h1, hb.trans (h2.mono hb.size)⟩)
  have CGt := Lib.hid (show ∀ wx, Below w.heap.size w wx → Calls Tryd.prog 20 #[.string (str t)] wx fun e w' => e = .returned (.string (str (quoteL 34 stG (elemsOf t)))) ∧ Below w.heap.size w w' from fun wx hb => (iQuoteToGraphic_any t wx (by omega) (hT.below hb) (hG.below hb) (hU.below hb)).mono fun e w' ⟨h1, h2⟩ => ⟨h1, hb.trans (h2.mono hb.size)⟩)
  have CGu := Lib.hid (show ∀ wx, Below w.heap.size w wx → Calls Tryd.prog 20 #[.string (str u)] wx fun e w' => e = .returned (.string (str (quoteL 34 stG (elemsOf u)))) ∧ Below w.heap.size w w' from fun wx hb => (iQuoteToGraphic_any u wx (by omega) (hT.below hb) (hG.below hb) (hU.below hb)).mono fun e w' ⟨h1, h2⟩ => ⟨h1, hb.trans (h2.mono hb.size)⟩)
  have nPs := quote_len (q := 34) (okP false) s
  have IPs := Lib.hid (show ∀ wx, Below w.heap.size w wx → Calls Tryd.prog 27 #[.string (str (quoteL 34 (stP false) (elemsOf s)))] wx fun e w' => e = .returned (.string (str (flatE 34 (stP false) (elemsOf s)))) ∧ Below w.heap.size w w' from fun wx hb => (by have h := inner_any (quoteL 34 (stP false) (elemsOf s)) nPs.1 (by omega) wx; rw [inner_quote] at h; exact h.mono fun e w' ⟨h1, h2⟩ => ⟨h1, by rw [← h2]; exact hb⟩))
  have nPt := quote_len (q := 34) (okP false) t
  have IPt := Lib.hid (show ∀ wx, Below w.heap.size w wx → Calls Tryd.prog 27 #[.string (str (quoteL 34 (stP false) (elemsOf t)))] wx fun e w' => e = .returned (.string (str (flatE 34 (stP false) (elemsOf t)))) ∧ Below w.heap.size w w' from fun wx hb => (by have h := inner_any (quoteL 34 (stP false) (elemsOf t)) nPt.1 (by omega) wx; rw [inner_quote] at h; exact h.mono fun e w' ⟨h1, h2⟩ => ⟨h1, by rw [← h2]; exact hb⟩))
  have nPu := quote_len (q := 34) (okP false) u
  have IPu := Lib.hid (show ∀ wx, Below w.heap.size w wx → Calls Tryd.prog 27 #[.string (str (quoteL 34 (stP false) (elemsOf u)))] wx fun e w' => e = .returned (.string (str (flatE 34 (stP false) (elemsOf u)))) ∧ Below w.heap.size w w' from fun wx hb => (by have h := inner_any (quoteL 34 (stP false) (elemsOf u)) nPu.1 (by omega) wx; rw [inner_quote] at h; exact h.mono fun e w' ⟨h1, h2⟩ => ⟨h1, by rw [← h2]; exact hb⟩))
  have fP : flatE 34 (stP false) (elemsOf u) = flatE 34 (stP false) (elemsOf s) ++ flatE 34 (stP false) (elemsOf t) := by rw [hel, flat_append]
  have nAs := quote_len (q := 34) (okP true) s
  have IAs := Lib.hid (show ∀ wx, Below w.heap.size w wx → Calls Tryd.prog 27 #[.string (str (quoteL 34 (stP true) (elemsOf s)))] wx fun e w' => e = .returned (.string (str (flatE 34 (stP true) (elemsOf s)))) ∧ Below w.heap.size w w' from fun wx hb => (by have h := inner_any (quoteL 34 (stP true) (elemsOf s)) nAs.1 (by omega) wx; rw [inner_quote] at h; exact h.mono fun e w' ⟨h1, h2⟩ => ⟨h1, by rw [← h2]; exact hb⟩))
  have nAt := quote_len (q := 34) (okP true) t
  have IAt := Lib.hid (show ∀ wx, Below w.heap.size w wx → Calls Tryd.prog 27 #[.string (str (quoteL 34 (stP true) (elemsOf t)))] wx fun e w' => e = .returned (.string (str (flatE 34 (stP true) (elemsOf t)))) ∧ Below w.heap.size w w' from fun wx hb => (by have h := inner_any (quoteL 34 (stP true) (elemsOf t)) nAt.1 (by omega) wx; rw [inner_quote] at h; exact h.mono fun e w' ⟨h1, h2⟩ => ⟨h1, by rw [← h2]; exact hb⟩))
  have nAu := quote_len (q := 34) (okP true) u
  have IAu := Lib.hid (show ∀ wx, Below w.heap.size w wx → Calls Tryd.prog 27 #[.string (str (quoteL 34 (stP true) (elemsOf u)))] wx fun e w' => e = .returned (.string (str (flatE 34 (stP true) (elemsOf u)))) ∧ Below w.heap.size w w' from fun wx hb => (by have h := inner_any (quoteL 34 (stP true) (elemsOf u)) nAu.1 (by omega) wx; rw [inner_quote] at h; exact h.mono fun e w' ⟨h1, h2⟩ => ⟨h1, by rw [← h2]; exact hb⟩))
  have fA : flatE 34 (stP true) (elemsOf u) = flatE 34 (stP true) (elemsOf s) ++ flatE 34 (stP true) (elemsOf t) := by rw [hel, flat_append]
  have nGs := quote_len (q := 34) okG s
  have IGs := Lib.hid (show ∀ wx, Below w.heap.size w wx → Calls Tryd.prog 27 #[.string (str (quoteL 34 stG (elemsOf s)))] wx fun e w' => e = .returned (.string (str (flatE 34 stG (elemsOf s)))) ∧ Below w.heap.size w w' from fun wx hb => (by have h := inner_any (quoteL 34 stG (elemsOf s)) nGs.1 (by omega) wx; rw [inner_quote] at h; exact h.mono fun e w' ⟨h1, h2⟩ => ⟨h1, by rw [← h2]; exact hb⟩))
  have nGt := quote_len (q := 34) okG t
  have IGt := Lib.hid (show ∀ wx, Below w.heap.size w wx → Calls Tryd.prog 27 #[.string (str (quoteL 34 stG (elemsOf t)))] wx fun e w' => e = .returned (.string (str (flatE 34 stG (elemsOf t)))) ∧ Below w.heap.size w w' from fun wx hb => (by have h := inner_any (quoteL 34 stG (elemsOf t)) nGt.1 (by omega) wx; rw [inner_quote] at h; exact h.mono fun e w' ⟨h1, h2⟩ => ⟨h1, by rw [← h2]; exact hb⟩))
  have nGu := quote_len (q := 34) okG u
  have IGu := Lib.hid (show ∀ wx, Below w.heap.size w wx → Calls Tryd.prog 27 #[.string (str (quoteL 34 stG (elemsOf u)))] wx fun e w' => e = .returned (.string (str (flatE 34 stG (elemsOf u)))) ∧ Below w.heap.size w w' from fun wx hb => (by have h := inner_any (quoteL 34 stG (elemsOf u)) nGu.1 (by omega) wx; rw [inner_quote] at h; exact h.mono fun e w' ⟨h1, h2⟩ => ⟨h1, by rw [← h2]; exact hb⟩))
  have fG : flatE 34 stG (elemsOf u) = flatE 34 stG (elemsOf s) ++ flatE 34 stG (elemsOf t) := by rw [hel, flat_append]
  have flPs := flat_len (q := 34) (okP false) (elemsOf s) (elems_val s)
  rw [elems_bytes] at flPs
  obtain ⟨Ps, hPs⟩ : ∃ L, L = quoteL 34 (stP false) (elemsOf s) := ⟨_, rfl⟩
  rw [← hPs] at CPs IPs nPs
  obtain ⟨YPs, hYPs⟩ : ∃ L, L = flatE 34 (stP false) (elemsOf s) := ⟨_, rfl⟩
  rw [← hYPs] at IPs flPs fP
  have flPt := flat_len (q := 34) (okP false) (elemsOf t) (elems_val t)
  rw [elems_bytes] at flPt
  obtain ⟨Pt, hPt⟩ : ∃ L, L = quoteL 34 (stP false) (elemsOf t) := ⟨_, rfl⟩
  rw [← hPt] at CPt IPt nPt
  obtain ⟨YPt, hYPt⟩ : ∃ L, L = flatE 34 (stP false) (elemsOf t) := ⟨_, rfl⟩
  rw [← hYPt] at IPt flPt fP
  have flPu := flat_len (q := 34) (okP false) (elemsOf u) (elems_val u)
  rw [elems_bytes] at flPu
  obtain ⟨Pu, hPu⟩ : ∃ L, L = quoteL 34 (stP false) (elemsOf u) := ⟨_, rfl⟩
  rw [← hPu] at CPu IPu nPu
  obtain ⟨YPu, hYPu⟩ : ∃ L, L = flatE 34 (stP false) (elemsOf u) := ⟨_, rfl⟩
  rw [← hYPu] at IPu flPu fP
  have cP : str YPs ++ str YPt = str YPu := by rw [fP]; exact str_append _ _
  have zP : ¬ 9223372036854775807 < (str YPs).size + (str YPt).size := by rw [size_str, size_str]; omega
  have flAs := flat_len (q := 34) (okP true) (elemsOf s) (elems_val s)
  rw [elems_bytes] at flAs
  obtain ⟨As, hAs⟩ : ∃ L, L = quoteL 34 (stP true) (elemsOf s) := ⟨_, rfl⟩
  rw [← hAs] at CAs IAs nAs
  obtain ⟨YAs, hYAs⟩ : ∃ L, L = flatE 34 (stP true) (elemsOf s) := ⟨_, rfl⟩
  rw [← hYAs] at IAs flAs fA
  have flAt := flat_len (q := 34) (okP true) (elemsOf t) (elems_val t)
  rw [elems_bytes] at flAt
  obtain ⟨At, hAt⟩ : ∃ L, L = quoteL 34 (stP true) (elemsOf t) := ⟨_, rfl⟩
  rw [← hAt] at CAt IAt nAt
  obtain ⟨YAt, hYAt⟩ : ∃ L, L = flatE 34 (stP true) (elemsOf t) := ⟨_, rfl⟩
  rw [← hYAt] at IAt flAt fA
  have flAu := flat_len (q := 34) (okP true) (elemsOf u) (elems_val u)
  rw [elems_bytes] at flAu
  obtain ⟨Au, hAu⟩ : ∃ L, L = quoteL 34 (stP true) (elemsOf u) := ⟨_, rfl⟩
  rw [← hAu] at CAu IAu nAu
  obtain ⟨YAu, hYAu⟩ : ∃ L, L = flatE 34 (stP true) (elemsOf u) := ⟨_, rfl⟩
  rw [← hYAu] at IAu flAu fA
  have cA : str YAs ++ str YAt = str YAu := by rw [fA]; exact str_append _ _
  have zA : ¬ 9223372036854775807 < (str YAs).size + (str YAt).size := by rw [size_str, size_str]; omega
  have flGs := flat_len (q := 34) okG (elemsOf s) (elems_val s)
  rw [elems_bytes] at flGs
  obtain ⟨Gs, hGs⟩ : ∃ L, L = quoteL 34 stG (elemsOf s) := ⟨_, rfl⟩
  rw [← hGs] at CGs IGs nGs
  obtain ⟨YGs, hYGs⟩ : ∃ L, L = flatE 34 stG (elemsOf s) := ⟨_, rfl⟩
  rw [← hYGs] at IGs flGs fG
  have flGt := flat_len (q := 34) okG (elemsOf t) (elems_val t)
  rw [elems_bytes] at flGt
  obtain ⟨Gt, hGt⟩ : ∃ L, L = quoteL 34 stG (elemsOf t) := ⟨_, rfl⟩
  rw [← hGt] at CGt IGt nGt
  obtain ⟨YGt, hYGt⟩ : ∃ L, L = flatE 34 stG (elemsOf t) := ⟨_, rfl⟩
  rw [← hYGt] at IGt flGt fG
  have flGu := flat_len (q := 34) okG (elemsOf u) (elems_val u)
  rw [elems_bytes] at flGu
  obtain ⟨Gu, hGu⟩ : ∃ L, L = quoteL 34 stG (elemsOf u) := ⟨_, rfl⟩
  rw [← hGu] at CGu IGu nGu
  obtain ⟨YGu, hYGu⟩ : ∃ L, L = flatE 34 stG (elemsOf u) := ⟨_, rfl⟩
  rw [← hYGu] at IGu flGu fG
  have cG : str YGs ++ str YGt = str YGu := by rw [fG]; exact str_append _ _
  have zG : ¬ 9223372036854775807 < (str YGs).size + (str YGt).size := by rw [size_str, size_str]; omega
  obtain ⟨ms, hms⟩ : ∃ n, n = Ps.length := ⟨_, rfl⟩
  have ems : (str Ps).size = ms := by rw [size_str, hms]
  rw [← hms] at nPs
  have m2s := nPs.1
  obtain ⟨mt, hmt⟩ : ∃ n, n = Pt.length := ⟨_, rfl⟩
  have emt : (str Pt).size = mt := by rw [size_str, hmt]
  rw [← hmt] at nPt
  have m2t := nPt.1
  have h0 : Below w.heap.size w w := Below.refl _ _
  have IT2 := Lib.hid (show ∀ wx, Below w.heap.size w wx → Calls Tryd.prog 28 #[.string (str s)] wx fun e w' => e = .returned (.bool true) ∧ Below w.heap.size w w' from fun wx hb => by
    have h := isText_any s wx (by omega)
    rw [htx] at h
    exact h.mono fun e w' ⟨h1, h2⟩ => ⟨h1, hb.trans (h2.mono hb.size)⟩)
  clear hL hT hG hU htx IT hel hu ul fP fA fG hms hmt ha hb hPs hYPs nPs flPs hPt hYPt nPt flPt hPu hYPu nPu flPu hAs hYAs nAs flAs hAt hYAt nAt flAt hAu hYAu nAu flAu hGs hYGs nGs flGs hGt hYGt nGt flGt hGu hYGu nGu flGu
  go_enter Tryd.func13, Tryd.ntmps13
  go_wp2_with fail
  refine (IT2.out _ h0).mono ?_
  rintro e w1 ⟨rfl, hb1⟩
  go_wp2_with fail
  refine (CPs.out _ hb1).mono ?_
  rintro e w2 ⟨rfl, hb2⟩
  go_wp2_with fail
  refine (CPt.out _ hb2).mono ?_
  rintro e w3 ⟨rfl, hb3⟩
  go_wp2_with fail
  refine (CPu.out _ hb3).mono ?_
  rintro e w4 ⟨rfl, hb4⟩
  go_wp2_with fail
  refine (IPu.out _ hb4).mono ?_
  rintro e w5 ⟨rfl, hb5⟩
  go_wp2_with fail
  refine (CPs.out _ hb5).mono ?_
  rintro e w6 ⟨rfl, hb6⟩
  go_wp2_with fail
  refine (IPs.out _ hb6).mono ?_
  rintro e w7 ⟨rfl, hb7⟩
  go_wp2_with fail
  refine (CPt.out _ hb7).mono ?_
  rintro e w8 ⟨rfl, hb8⟩
  go_wp2_with fail
  refine (IPt.out _ hb8).mono ?_
  rintro e w9 ⟨rfl, hb9⟩
  go_wp2_with fail
  refine (CAu.out _ hb9).mono ?_
  rintro e w10 ⟨rfl, hb10⟩
  go_wp2_with fail
  refine (IAu.out _ hb10).mono ?_
  rintro e w11 ⟨rfl, hb11⟩
  go_wp2_with fail
  refine (CAs.out _ hb11).mono ?_
  rintro e w12 ⟨rfl, hb12⟩
  go_wp2_with fail
  refine (IAs.out _ hb12).mono ?_
  rintro e w13 ⟨rfl, hb13⟩
  go_wp2_with fail
  refine (CAt.out _ hb13).mono ?_
  rintro e w14 ⟨rfl, hb14⟩
  go_wp2_with fail
  refine (IAt.out _ hb14).mono ?_
  rintro e w15 ⟨rfl, hb15⟩
  go_wp2_with fail
  refine (CGu.out _ hb15).mono ?_
  rintro e w16 ⟨rfl, hb16⟩
  go_wp2_with fail
  refine (IGu.out _ hb16).mono ?_
  rintro e w17 ⟨rfl, hb17⟩
  go_wp2_with fail
  refine (CGs.out _ hb17).mono ?_
  rintro e w18 ⟨rfl, hb18⟩
  go_wp2_with fail
  refine (IGs.out _ hb18).mono ?_
  rintro e w19 ⟨rfl, hb19⟩
  go_wp2_with fail
  refine (CGt.out _ hb19).mono ?_
  rintro e w20 ⟨rfl, hb20⟩
  go_wp2_with fail
  refine (IGt.out _ hb20).mono ?_
  rintro e w21 ⟨rfl, hb21⟩
  go_wp2_with fail
  go_ret
  exact ⟨by simp, hb21⟩
end Go.Proofs.YtpboiodigfdajaaDoor.fnQuoteParts
