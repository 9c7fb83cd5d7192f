/-
  The walk of laws.FnTwice: it returns true. Printed by wip/gen/unqlaws.py.
-/
import Derived.Test.YthbnglkpkgpojaaDoorQuotes
import Derived.Test.YthbnglkpkgpojaaDoorUnquote
import Derived.Outline
namespace Go.Proofs.YthbnglkpkgpojaaDoor.fnTwice
open Go.RowKit
set_option maxRecDepth 100000
set_option linter.unusedVariables false
set_option linter.unusedSimpArgs false
set_option maxHeartbeats 8000000 in
theorem walk (w : World) (a : ByteArray) (ha : a.size ≤ 1048576) (hL : laidMetH Tryd.prog Rows.fnTwiceUptoRow.laid w) :
    Calls Tryd.prog 7 #[.string a] w fun e w' => e = .returned (.bool true) ∧ Below w.heap.size w w' := by
  have hT : PrintT w := printT_of hL (by kernel_rfl) (by simp [Rows.fnTwiceUptoRow, Rows.laid_strconv_isPrint16]) (by simp [Rows.fnTwiceUptoRow, Rows.laid_strconv_isNotPrint16]) (by simp [Rows.fnTwiceUptoRow, Rows.laid_strconv_isPrint32]) (by simp [Rows.fnTwiceUptoRow, Rows.laid_strconv_isNotPrint32])
  have hG : GraphicT w := graphicT_of hL (by kernel_rfl) (by simp [Rows.fnTwiceUptoRow, Rows.laid_strconv_isGraphic])
  have hU : Utf8T w := utf8T_of hL (by kernel_rfl) (by simp [Rows.fnTwiceUptoRow, Rows.laid_unicode_utf8_first]) (by simp [Rows.fnTwiceUptoRow, Rows.laid_unicode_utf8_acceptRanges]; kernel_rfl)
  have h0 : Below w.heap.size w w := Below.refl _ _
  obtain ⟨s, rfl⟩ : ∃ s, a = str s := ⟨a.data.toList, (str_toList a).symm⟩
  rw [size_str] at ha
  have l1 := quote_len (q := 34) (okP false) s
  have l2 := quote_len (q := 34) (okP false) (quoteL 34 (stP false) (elemsOf s))
  have l3 := quote_grows (okP false) (quoteL 34 (stP false) (elemsOf s))
  have l4 := quote_count (stP false) (elemsOf s)
  have Q1 := Lib.hid (show ∀ wx, Below w.heap.size w wx → Calls Tryd.prog 14 #[.string (str s)] wx fun e w' => e = .returned (.string (str (quoteL 34 (stP false) (elemsOf s)))) ∧ Below w.heap.size w w' from fun wx hb => (iQuote_any s wx (by omega) (hT.below hb) (hG.below hb) (hU.below hb)).mono fun e w' h => ⟨h.1, hb.trans (h.2.mono hb.size)⟩)
  have Q2 := Lib.hid (show ∀ wx, Below w.heap.size w wx → Calls Tryd.prog 14 #[.string (str (quoteL 34 (stP false) (elemsOf s)))] wx fun e w' => e = .returned (.string (str (quoteL 34 (stP false) (elemsOf (quoteL 34 (stP false) (elemsOf s)))))) ∧ Below w.heap.size w w' from fun wx hb => (iQuote_any (quoteL 34 (stP false) (elemsOf s)) wx (by omega) (hT.below hb) (hG.below hb) (hU.below hb)).mono fun e w' h => ⟨h.1, hb.trans (h.2.mono hb.size)⟩)
  have U1 := Lib.hid (show ∀ wx, Below w.heap.size w wx → Calls Tryd.prog 20 #[.string (str (quoteL 34 (stP false) (elemsOf (quoteL 34 (stP false) (elemsOf s)))))] wx fun e w' => e = .returned (.tuple #[.string (str (quoteL 34 (stP false) (elemsOf s))), .bool true]) ∧ Below w.heap.size w w' from fun wx hb => (iUnquote_text (okP false) (quoteL 34 (stP false) (elemsOf s)) (by omega) wx (hU.below hb)).mono fun e w' h => ⟨h.1, hb.trans (h.2.mono hb.size)⟩)
  have U2 := Lib.hid (show ∀ wx, Below w.heap.size w wx → Calls Tryd.prog 20 #[.string (str (quoteL 34 (stP false) (elemsOf s)))] wx fun e w' => e = .returned (.tuple #[.string (str s), .bool true]) ∧ Below w.heap.size w w' from fun wx hb => (iUnquote_text (okP false) s (by omega) wx (hU.below hb)).mono fun e w' h => ⟨h.1, hb.trans (h.2.mono hb.size)⟩)
  obtain ⟨q, hq⟩ : ∃ L, L = quoteL 34 (stP false) (elemsOf s) := ⟨_, rfl⟩
  rw [← hq] at Q1 Q2 U1 U2 l1 l2 l3 l4
  obtain ⟨Q, hQ⟩ : ∃ L, L = quoteL 34 (stP false) (elemsOf q) := ⟨_, rfl⟩
  rw [← hQ] at Q2 U1 l2 l3
  obtain ⟨n, hn⟩ : ∃ n, n = q.length := ⟨_, rfl⟩
  have eq1 : (str q).size = n := by rw [size_str, hn]
  obtain ⟨m, hm⟩ : ∃ n, n = Q.length := ⟨_, rfl⟩
  have eQ1 : (str Q).size = m := by rw [size_str, hm]
  rw [← hn] at l1 l2 l3
  rw [← hm] at l2 l3
  have h4 : n + 4 ≤ m := by omega
  have n9 : n ≤ 10000000 := by omega
  have m9 : m ≤ 100000000 := by omega
  clear hL hT hG hU hq hQ hn hm l1 l2 l3 l4 ha
  go_enter Tryd.func7, Tryd.ntmps7
  go_wp2_with fail
  refine (Q1.out _ h0).mono ?_
  rintro e w1 ⟨rfl, hb1⟩
  go_wp2_with fail
  refine (Q2.out _ hb1).mono ?_
  rintro e w2 ⟨rfl, hb2⟩
  go_wp2_with fail
  refine (U1.out _ hb2).mono ?_
  rintro e w3 ⟨rfl, hb3⟩
  go_wp2_with fail
  refine (U2.out _ hb3).mono ?_
  rintro e w4 ⟨rfl, hb4⟩
  go_wp2_with fail
  all_goals first | (exfalso; omega) | skip
  go_ret
  exact ⟨by first | rfl | (simp; omega) | simp, hb4⟩
end Go.Proofs.YthbnglkpkgpojaaDoor.fnTwice
