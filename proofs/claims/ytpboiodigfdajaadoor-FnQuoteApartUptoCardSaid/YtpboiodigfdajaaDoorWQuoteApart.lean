/-
  The walk of laws.FnQuoteApart: it returns true. Printed by wip/gen/qlaws.py.
-/
import Derived.Test.YtpboiodigfdajaaDoorQuotes
import Derived.Test.YtpboiodigfdajaaDoorPlainQLaws
import Derived.Test.YtpboiodigfdajaaDoorStrWords
import Derived.Outline
namespace Go.Proofs.YtpboiodigfdajaaDoor.fnQuoteApart
open Go.RowKit
set_option maxRecDepth 100000
set_option linter.unusedVariables false
set_option linter.unusedSimpArgs false
set_option maxHeartbeats 8000000 in
theorem walk (w : World) (a : ByteArray) (ha : a.size ≤ 1048576) (b : ByteArray) (hb : b.size ≤ 1048576) (hL : laidMetH Tryd.prog Rows.fnQuoteApartUptoRow.laid w) :
    Calls Tryd.prog 11 #[.string a, .string b] w fun e w' => e = .returned (.bool true) ∧ Below w.heap.size w w' := by
  have hT : PrintT w := printT_of hL (by kernel_rfl) (by simp [Rows.fnQuoteApartUptoRow, Rows.laid_strconv_isPrint16]) (by simp [Rows.fnQuoteApartUptoRow, Rows.laid_strconv_isNotPrint16]) (by simp [Rows.fnQuoteApartUptoRow, Rows.laid_strconv_isPrint32]) (by simp [Rows.fnQuoteApartUptoRow, Rows.laid_strconv_isNotPrint32])
  have hG : GraphicT w := graphicT_of hL (by kernel_rfl) (by simp [Rows.fnQuoteApartUptoRow, Rows.laid_strconv_isGraphic])
  have hU : Utf8T w := utf8T_of hL (by kernel_rfl) (by simp [Rows.fnQuoteApartUptoRow, Rows.laid_unicode_utf8_first]) (by simp [Rows.fnQuoteApartUptoRow, Rows.laid_unicode_utf8_acceptRanges]; kernel_rfl)
  obtain ⟨s, rfl⟩ : ∃ s, a = str s := ⟨a.data.toList, (str_toList a).symm⟩
  obtain ⟨t, rfl⟩ : ∃ s, b = str s := ⟨b.data.toList, (str_toList b).symm⟩
  rw [size_str] at ha hb
  have CPs := Lib.hid (fun wx (hb : Below w.heap.size w wx) => iQuote_any s wx (by omega) (hT.below hb) (hG.below hb) (hU.below hb))
  have CAs := Lib.hid (fun wx (hb : Below w.heap.size w wx) => iQuoteToASCII_any s wx (by omega) (hT.below hb) (hG.below hb) (hU.below hb))
  have CGs := Lib.hid (fun wx (hb : Below w.heap.size w wx) => iQuoteToGraphic_any s wx (by omega) (hT.below hb) (hG.below hb) (hU.below hb))
  have CPt := Lib.hid (fun wx (hb : Below w.heap.size w wx) => iQuote_any t wx (by omega) (hT.below hb) (hG.below hb) (hU.below hb))
  have CAt := Lib.hid (fun wx (hb : Below w.heap.size w wx) => iQuoteToASCII_any t wx (by omega) (hT.below hb) (hG.below hb) (hU.below hb))
  have CGt := Lib.hid (fun wx (hb : Below w.heap.size w wx) => iQuoteToGraphic_any t wx (by omega) (hT.below hb) (hG.below hb) (hU.below hb))
  have hP := quote_apart (okP false) s t
  have hA := quote_apart (okP true) s t
  have hG' := quote_apart okG s t
  obtain ⟨Ps, hPs⟩ : ∃ L, L = quoteL 34 (stP false) (elemsOf s) := ⟨_, rfl⟩
  rw [← hPs] at CPs hP
  obtain ⟨Pt, hPt⟩ : ∃ L, L = quoteL 34 (stP false) (elemsOf t) := ⟨_, rfl⟩
  rw [← hPt] at CPt hP
  obtain ⟨As, hAs⟩ : ∃ L, L = quoteL 34 (stP true) (elemsOf s) := ⟨_, rfl⟩
  rw [← hAs] at CAs hA
  obtain ⟨At, hAt⟩ : ∃ L, L = quoteL 34 (stP true) (elemsOf t) := ⟨_, rfl⟩
  rw [← hAt] at CAt hA
  obtain ⟨Gs, hGs⟩ : ∃ L, L = quoteL 34 stG (elemsOf s) := ⟨_, rfl⟩
  rw [← hGs] at CGs hG'
  obtain ⟨Gt, hGt⟩ : ∃ L, L = quoteL 34 stG (elemsOf t) := ⟨_, rfl⟩
  rw [← hGt] at CGt hG'
  have hem : (str Ps).toList.isEmpty = false := by rw [Lib.toList_data, hPs]; rfl
  have es : (str s).toList = s := by rw [Lib.toList_data]; rfl
  have et : (str t).toList = t := by rw [Lib.toList_data]; rfl
  by_cases hst : s = t
  · subst hst
    obtain rfl : Ps = Pt := by rw [hPs, hPt]
    obtain rfl : As = At := by rw [hAs, hAt]
    obtain rfl : Gs = Gt := by rw [hGs, hGt]
    clear hL hT hG hU hP hA hG' hPs hPt hAs hAt hGs hGt
    go_enter Tryd.func11, Tryd.ntmps11
    have tok1 : True := trivial
    go_wp2_with (first
      | (go_at_call 16; have _t := tok1; clear tok1; refine (CPs.out _ (Below.refl _ _)).mono ?_; rintro e w1 ⟨rfl, hw1⟩; have tok2 : True := trivial)
      | (go_at_call 16; have _t := tok2; clear tok2; refine (CPs.out _ hw1).mono ?_; rintro e w2 ⟨rfl, hw2⟩; have hb2 := hw1.trans (hw2.mono hw1.size); have tok3 : True := trivial)
      | (go_at_call 16; have _t := tok3; clear tok3; refine (CPt.out _ hb2).mono ?_; rintro e w3 ⟨rfl, hw3⟩; have hb3 := hb2.trans (hw3.mono hb2.size); have tok4 : True := trivial)
      | (go_at_call 19; have _t := tok4; clear tok4; refine (CAs.out _ hb3).mono ?_; rintro e w4 ⟨rfl, hw4⟩; have hb4 := hb3.trans (hw4.mono hb3.size); have tok5 : True := trivial)
      | (go_at_call 19; have _t := tok5; clear tok5; refine (CAt.out _ hb4).mono ?_; rintro e w5 ⟨rfl, hw5⟩; have hb5 := hb4.trans (hw5.mono hb4.size); have tok6 : True := trivial)
      | (go_at_call 20; have _t := tok6; clear tok6; refine (CGs.out _ hb5).mono ?_; rintro e w6 ⟨rfl, hw6⟩; have hb6 := hb5.trans (hw6.mono hb5.size); have tok7 : True := trivial)
      | (go_at_call 20; have _t := tok7; clear tok7; refine (CGt.out _ hb6).mono ?_; rintro e w7 ⟨rfl, hw7⟩; have hb7 := hb6.trans (hw7.mono hb6.size)))
    go_ret
    exact ⟨by simp, hb7⟩
  · have q0 : (s == t) = false := by simpa using hst
    have q1 : ¬ Ps = Pt := fun e => hst (hP.1 e)
    have q2 : ¬ As = At := fun e => hst (hA.1 e)
    have q3 : ¬ Gs = Gt := fun e => hst (hG'.1 e)
    have f1 : (str Ps).toList = Ps := by rw [Lib.toList_data]; rfl
    have f2 : (str Pt).toList = Pt := by rw [Lib.toList_data]; rfl
    have f3 : (str As).toList = As := by rw [Lib.toList_data]; rfl
    have f4 : (str At).toList = At := by rw [Lib.toList_data]; rfl
    have f5 : (str Gs).toList = Gs := by rw [Lib.toList_data]; rfl
    have f6 : (str Gt).toList = Gt := by rw [Lib.toList_data]; rfl
    have hne : Ps.isEmpty = false := by rw [hPs]; rfl
    have g1 : (Ps == Pt) = false := by simpa using q1
    have g2 : (As == At) = false := by simpa using q2
    have g3 : (Gs == Gt) = false := by simpa using q3
    clear hL hT hG hU hP hA hG' hPs hPt hAs hAt hGs hGt hem hst q1 q2 q3
    go_enter Tryd.func11, Tryd.ntmps11
    have tok1 : True := trivial
    go_wp2_with (first
      | (go_at_call 16; have _t := tok1; clear tok1; refine (CPs.out _ (Below.refl _ _)).mono ?_; rintro e w1 ⟨rfl, hw1⟩; have tok2 : True := trivial)
      | (go_at_call 16; have _t := tok2; clear tok2; refine (CPs.out _ hw1).mono ?_; rintro e w2 ⟨rfl, hw2⟩; have hb2 := hw1.trans (hw2.mono hw1.size); have tok3 : True := trivial)
      | (go_at_call 16; have _t := tok3; clear tok3; refine (CPt.out _ hb2).mono ?_; rintro e w3 ⟨rfl, hw3⟩; have hb3 := hb2.trans (hw3.mono hb2.size); have tok4 : True := trivial)
      | (go_at_call 19; have _t := tok4; clear tok4; refine (CAs.out _ hb3).mono ?_; rintro e w4 ⟨rfl, hw4⟩; have hb4 := hb3.trans (hw4.mono hb3.size); have tok5 : True := trivial)
      | (go_at_call 19; have _t := tok5; clear tok5; refine (CAt.out _ hb4).mono ?_; rintro e w5 ⟨rfl, hw5⟩; have hb5 := hb4.trans (hw5.mono hb4.size); have tok6 : True := trivial)
      | (go_at_call 20; have _t := tok6; clear tok6; refine (CGs.out _ hb5).mono ?_; rintro e w6 ⟨rfl, hw6⟩; have hb6 := hb5.trans (hw6.mono hb5.size); have tok7 : True := trivial)
      | (go_at_call 20; have _t := tok7; clear tok7; refine (CGt.out _ hb6).mono ?_; rintro e w7 ⟨rfl, hw7⟩; have hb7 := hb6.trans (hw7.mono hb6.size)))
    go_ret
    exact ⟨by simp, hb7⟩
end Go.Proofs.YtpboiodigfdajaaDoor.fnQuoteApart
