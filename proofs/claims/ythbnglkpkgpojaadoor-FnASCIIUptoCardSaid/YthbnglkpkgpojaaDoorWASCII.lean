/-
  The walk of laws.FnASCII: it returns true.
-/
import Derived.Test.YthbnglkpkgpojaaDoorQuotes
import Derived.Test.YthbnglkpkgpojaaDoorQuoteRunes
import Derived.Test.YthbnglkpkgpojaaDoorIsASCII
import Derived.Outline
namespace Go.Proofs.YthbnglkpkgpojaaDoor.fnASCII
open Go.RowKit
set_option maxRecDepth 100000
set_option linter.unusedVariables false
set_option linter.unusedSimpArgs false
theorem wf_i32 {a : Int} (h : (Lit.int .i32 a).wf = true) : -2147483648 ≤ a ∧ a ≤ 2147483647 := by
  simpa [Lit.wf, IntKind.min, IntKind.max, IntKind.signed, IntKind.bits] using h
theorem rune_same {r : Int} (h0 : 0 ≤ r) (h1 : r < 128) : quoteL 39 (stP true) [fixR r] = quoteL 39 (stP false) [fixR r] := by
  have e : fixR r = r := by
    rw [fixR, if_pos]
    simp only [isCP, decide_eq_true_eq]; omega
  rw [e]
  refine quoteL_congr 39 _ _ _ fun x hx => ?_
  obtain rfl : x = r := by simpa using hx
  have : stP true x = stP false x := by simp [stP, h1]
  rw [this]
set_option maxHeartbeats 4000000 in
theorem walk (w : World) (a : ByteArray) (ha : a.size ≤ 1048576) (r : Int) (hr : (Lit.int .i32 r).wf = true) (hL : laidMetH Tryd.prog Rows.fnASCIIUptoRow.laid w) :
    Calls Tryd.prog 4 #[.string a, .int .i32 r] w fun e w' => e = .returned (.bool true) ∧ Below w.heap.size w w' := by
  have hT : PrintT w := printT_of hL (by kernel_rfl) (by simp [Rows.fnASCIIUptoRow, Rows.laid_strconv_isPrint16]) (by simp [Rows.fnASCIIUptoRow, Rows.laid_strconv_isNotPrint16]) (by simp [Rows.fnASCIIUptoRow, Rows.laid_strconv_isPrint32]) (by simp [Rows.fnASCIIUptoRow, Rows.laid_strconv_isNotPrint32])
  have hG : GraphicT w := graphicT_of hL (by kernel_rfl) (by simp [Rows.fnASCIIUptoRow, Rows.laid_strconv_isGraphic])
  have hU : Utf8T w := utf8T_of hL (by kernel_rfl) (by simp [Rows.fnASCIIUptoRow, Rows.laid_unicode_utf8_first]) (by simp [Rows.fnASCIIUptoRow, Rows.laid_unicode_utf8_acceptRanges]; kernel_rfl)
  have h0 : Below w.heap.size w w := Below.refl _ _
  obtain ⟨s, rfl⟩ : ∃ s, a = str s := ⟨a.data.toList, (str_toList a).symm⟩
  rw [size_str] at ha
  have QA := Lib.hid (show ∀ wx, Below w.heap.size w wx → Calls Tryd.prog 16 #[.string (str s)] wx fun e w' => e = .returned (.string (str (quoteL 34 (stP true) (elemsOf s)))) ∧ Below w.heap.size w w' from fun wx hb => (iQuoteToASCII_any s wx (by omega) (hT.below hb) (hG.below hb) (hU.below hb)).mono fun e w' ⟨h1, h2⟩ => ⟨h1, hb.trans (h2.mono hb.size)⟩)
  have QP := Lib.hid (show ∀ wx, Below w.heap.size w wx → Calls Tryd.prog 14 #[.string (str s)] wx fun e w' => e = .returned (.string (str (quoteL 34 (stP false) (elemsOf s)))) ∧ Below w.heap.size w w' from fun wx hb => (iQuote_any s wx (by omega) (hT.below hb) (hG.below hb) (hU.below hb)).mono fun e w' ⟨h1, h2⟩ => ⟨h1, hb.trans (h2.mono hb.size)⟩)
  have RA := Lib.hid (show ∀ wx, Below w.heap.size w wx → Calls Tryd.prog 17 #[.int .i32 r] wx fun e w' => e = .returned (.string (str (quoteL 39 (stP true) [fixR r]))) ∧ Below w.heap.size w w' from fun wx hb => (iQuoteRuneToASCII_any r wx (hT.below hb) (hG.below hb)).mono fun e w' ⟨h1, h2⟩ => ⟨h1, hb.trans (h2.mono hb.size)⟩)
  have RP := Lib.hid (show ∀ wx, Below w.heap.size w wx → Calls Tryd.prog 19 #[.int .i32 r] wx fun e w' => e = .returned (.string (str (quoteL 39 (stP false) [fixR r]))) ∧ Below w.heap.size w w' from fun wx hb => (iQuoteRune_any r wx (hT.below hb) (hG.below hb)).mono fun e w' ⟨h1, h2⟩ => ⟨h1, hb.trans (h2.mono hb.size)⟩)
  have lQ := quote_len (q := 34) (okP true) s
  have lR : 3 ≤ (quoteL 39 (stP true) [fixR r]).length ∧ (quoteL 39 (stP true) [fixR r]).length ≤ 100 := by have a := (elemL_length 39 ((stP true) (fixR r)) (fixR r)); simp [quoteL]; omega
  have aQ := quote_ascii (q := 34) (.inl rfl) (elemsOf s) fun x hx => by
    rcases elems_val s x hx with h | h
    · omega
    · have := cp_bounds h; omega
  have aR := quote_ascii (q := 39) (.inr rfl) [fixR r] fun x hx => by
    obtain rfl : x = fixR r := by simpa using hx
    have := fixR_bounds r; omega
  have sQ := Lib.hid (quote_ascii_same (l := s))
  have sR := Lib.hid (rune_same (r := r))
  have I1 := Lib.hid (isASCII_any (quoteL 34 (stP true) (elemsOf s)) (by omega))
  have I2 := Lib.hid (isASCII_any (quoteL 39 (stP true) [fixR r]) (by omega))
  have I3 := Lib.hid (isASCII_any s (by omega))
  rw [aQ] at I1
  rw [aR] at I2
  obtain ⟨q, hq⟩ : ∃ L, L = quoteL 34 (stP true) (elemsOf s) := ⟨_, rfl⟩
  rw [← hq] at QA lQ sQ I1
  obtain ⟨p, hp⟩ : ∃ L, L = quoteL 39 (stP true) [fixR r] := ⟨_, rfl⟩
  rw [← hp] at RA lR sR I2
  obtain ⟨q', hq'⟩ : ∃ L, L = quoteL 34 (stP false) (elemsOf s) := ⟨_, rfl⟩
  rw [← hq'] at QP sQ
  obtain ⟨p', hp'⟩ : ∃ L, L = quoteL 39 (stP false) [fixR r] := ⟨_, rfl⟩
  rw [← hp'] at RP sR
  obtain ⟨n, hn⟩ : ∃ n, n = q.length := ⟨_, rfl⟩
  have eQ : (str q).size = n := by rw [size_str, hn]
  obtain ⟨m, hm⟩ : ∃ m, m = p.length := ⟨_, rfl⟩
  have eP : (str p).size = m := by rw [size_str, hm]
  rw [← hn] at lQ
  rw [← hm] at lR
  have n2 := lQ.1
  have m3 := lR.1
  have n9 : n ≤ 10000000 := by omega
  have m9 := lR.2
  clear hL hT hG hU hr aQ aR hq hp hq' hp' hn hm lQ lR ha
  cases hs : asciiL s
  · rw [hs] at I3
    clear sQ hs
    by_cases hr1 : r < 0
    · skip
      go_enter Tryd.func4, Tryd.ntmps4
      go_wp2_with fail
      refine (QA.out _ h0).mono ?_
      rintro e w1 ⟨rfl, hb1⟩
      go_wp2_with fail
      refine (RA.out _ hb1).mono ?_
      rintro e w2 ⟨rfl, hb2⟩
      go_wp2_with fail
      refine (I1.out _).mono ?_
      rintro e w3 ⟨rfl, rfl⟩
      go_wp2_with fail
      refine (I2.out _).mono ?_
      rintro e w3 ⟨rfl, rfl⟩
      go_wp2_with fail
      all_goals first | (exfalso; omega) | skip
      refine (I3.out _).mono ?_
      rintro e w3 ⟨rfl, rfl⟩
      go_wp2_with fail
      all_goals first | (exfalso; omega) | skip
      go_ret
      exact ⟨by first | rfl | simp, hb2⟩
    by_cases hr2 : 128 ≤ r
    · skip
      go_enter Tryd.func4, Tryd.ntmps4
      go_wp2_with fail
      refine (QA.out _ h0).mono ?_
      rintro e w1 ⟨rfl, hb1⟩
      go_wp2_with fail
      refine (RA.out _ hb1).mono ?_
      rintro e w2 ⟨rfl, hb2⟩
      go_wp2_with fail
      refine (I1.out _).mono ?_
      rintro e w3 ⟨rfl, rfl⟩
      go_wp2_with fail
      refine (I2.out _).mono ?_
      rintro e w3 ⟨rfl, rfl⟩
      go_wp2_with fail
      all_goals first | (exfalso; omega) | skip
      refine (I3.out _).mono ?_
      rintro e w3 ⟨rfl, rfl⟩
      go_wp2_with fail
      all_goals first | (exfalso; omega) | skip
      go_ret
      exact ⟨by first | rfl | simp, hb2⟩
    · have eR := sR.out (by omega) (by omega)
      subst eR
      go_enter Tryd.func4, Tryd.ntmps4
      go_wp2_with fail
      refine (QA.out _ h0).mono ?_
      rintro e w1 ⟨rfl, hb1⟩
      go_wp2_with fail
      refine (RA.out _ hb1).mono ?_
      rintro e w2 ⟨rfl, hb2⟩
      go_wp2_with fail
      refine (I1.out _).mono ?_
      rintro e w3 ⟨rfl, rfl⟩
      go_wp2_with fail
      refine (I2.out _).mono ?_
      rintro e w3 ⟨rfl, rfl⟩
      go_wp2_with fail
      all_goals first | (exfalso; omega) | skip
      refine (I3.out _).mono ?_
      rintro e w3 ⟨rfl, rfl⟩
      go_wp2_with fail
      all_goals first | (exfalso; omega) | skip
      refine (RP.out _ hb2).mono ?_
      rintro e w3 ⟨rfl, hb3⟩
      go_wp2_with fail
      all_goals first | (exfalso; omega) | skip
      go_ret
      exact ⟨by first | rfl | simp, hb3⟩
  · rw [hs] at I3
    have eQQ := sQ.out hs
    subst eQQ
    clear sQ hs
    by_cases hr1 : r < 0
    · skip
      go_enter Tryd.func4, Tryd.ntmps4
      go_wp2_with fail
      refine (QA.out _ h0).mono ?_
      rintro e w1 ⟨rfl, hb1⟩
      go_wp2_with fail
      refine (RA.out _ hb1).mono ?_
      rintro e w2 ⟨rfl, hb2⟩
      go_wp2_with fail
      refine (I1.out _).mono ?_
      rintro e w3 ⟨rfl, rfl⟩
      go_wp2_with fail
      refine (I2.out _).mono ?_
      rintro e w3 ⟨rfl, rfl⟩
      go_wp2_with fail
      all_goals first | (exfalso; omega) | skip
      refine (I3.out _).mono ?_
      rintro e w3 ⟨rfl, rfl⟩
      go_wp2_with fail
      all_goals first | (exfalso; omega) | skip
      refine (QP.out _ hb2).mono ?_
      rintro e w3 ⟨rfl, hb3⟩
      go_wp2_with fail
      all_goals first | (exfalso; omega) | skip
      go_ret
      exact ⟨by first | rfl | simp, hb3⟩
    by_cases hr2 : 128 ≤ r
    · skip
      go_enter Tryd.func4, Tryd.ntmps4
      go_wp2_with fail
      refine (QA.out _ h0).mono ?_
      rintro e w1 ⟨rfl, hb1⟩
      go_wp2_with fail
      refine (RA.out _ hb1).mono ?_
      rintro e w2 ⟨rfl, hb2⟩
      go_wp2_with fail
      refine (I1.out _).mono ?_
      rintro e w3 ⟨rfl, rfl⟩
      go_wp2_with fail
      refine (I2.out _).mono ?_
      rintro e w3 ⟨rfl, rfl⟩
      go_wp2_with fail
      all_goals first | (exfalso; omega) | skip
      refine (I3.out _).mono ?_
      rintro e w3 ⟨rfl, rfl⟩
      go_wp2_with fail
      all_goals first | (exfalso; omega) | skip
      refine (QP.out _ hb2).mono ?_
      rintro e w3 ⟨rfl, hb3⟩
      go_wp2_with fail
      all_goals first | (exfalso; omega) | skip
      go_ret
      exact ⟨by first | rfl | simp, hb3⟩
    · have eR := sR.out (by omega) (by omega)
      subst eR
      go_enter Tryd.func4, Tryd.ntmps4
      go_wp2_with fail
      refine (QA.out _ h0).mono ?_
      rintro e w1 ⟨rfl, hb1⟩
      go_wp2_with fail
      refine (RA.out _ hb1).mono ?_
      rintro e w2 ⟨rfl, hb2⟩
      go_wp2_with fail
      refine (I1.out _).mono ?_
      rintro e w3 ⟨rfl, rfl⟩
      go_wp2_with fail
      refine (I2.out _).mono ?_
      rintro e w3 ⟨rfl, rfl⟩
      go_wp2_with fail
      all_goals first | (exfalso; omega) | skip
      refine (I3.out _).mono ?_
      rintro e w3 ⟨rfl, rfl⟩
      go_wp2_with fail
      all_goals first | (exfalso; omega) | skip
      refine (QP.out _ hb2).mono ?_
      rintro e w3 ⟨rfl, hb3⟩
      go_wp2_with fail
      all_goals first | (exfalso; omega) | skip
      refine (RP.out _ hb3).mono ?_
      rintro e w4 ⟨rfl, hb4⟩
      go_wp2_with fail
      all_goals first | (exfalso; omega) | skip
      go_ret
      exact ⟨by first | rfl | simp, hb4⟩
end Go.Proofs.YthbnglkpkgpojaaDoor.fnASCII
