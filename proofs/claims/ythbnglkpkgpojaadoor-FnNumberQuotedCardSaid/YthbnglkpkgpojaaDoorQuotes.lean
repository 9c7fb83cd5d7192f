/-
  Contracts: strconv.Quote, QuoteToASCII, QuoteToGraphic and the thin package's, at every text. Printed by wip/gen/quotes.py.
-/
import Derived.Test.YthbnglkpkgpojaaDoorQuotedWith
namespace Go.Proofs.YthbnglkpkgpojaaDoor
open Go.RowKit
set_option maxRecDepth 100000
set_option linter.unusedVariables false
theorem sQuote_any (s : List UInt8) (w : World) (hs : s.length ≤ 10485760) (hT : PrintT w) (hG : GraphicT w) (hU : Utf8T w) : Calls Tryd.prog 34 #[.string (str s)] w fun e w' => e = .returned (.string (str (quoteL 34 (stP false) (elemsOf s)))) ∧ Below w.heap.size w w' := by
  have C := Lib.hid (qw_any s false false w hs hT hG hU)
  rw [stQ_P false] at C
  obtain ⟨L, hL⟩ : ∃ L, L = quoteL 34 (stP false) (elemsOf s) := ⟨_, rfl⟩
  rw [← hL] at C ⊢
  clear hL hT hG hU
  go_enter Tryd.func34, Tryd.ntmps34
  go_wp2_with (go_at_call 56; refine C.out.mono ?_; rintro e w1 ⟨rfl, hw⟩)
  go_ret
  exact ⟨rfl, hw⟩
theorem iQuote_any (s : List UInt8) (w : World) (hs : s.length ≤ 10485760) (hT : PrintT w) (hG : GraphicT w) (hU : Utf8T w) : Calls Tryd.prog 14 #[.string (str s)] w fun e w' => e = .returned (.string (str (quoteL 34 (stP false) (elemsOf s)))) ∧ Below w.heap.size w w' := by
  have C := Lib.hid (sQuote_any s w hs hT hG hU)
  obtain ⟨L, hL⟩ : ∃ L, L = quoteL 34 (stP false) (elemsOf s) := ⟨_, rfl⟩
  rw [← hL] at C ⊢
  clear hL hT hG hU
  go_enter Tryd.func14, Tryd.ntmps14
  go_wp2_with (go_at_call 34; refine C.out.mono ?_; rintro e w1 ⟨rfl, hw⟩)
  go_ret
  exact ⟨rfl, hw⟩
theorem sQuoteToASCII_any (s : List UInt8) (w : World) (hs : s.length ≤ 10485760) (hT : PrintT w) (hG : GraphicT w) (hU : Utf8T w) : Calls Tryd.prog 36 #[.string (str s)] w fun e w' => e = .returned (.string (str (quoteL 34 (stP true) (elemsOf s)))) ∧ Below w.heap.size w w' := by
  have C := Lib.hid (qw_any s true false w hs hT hG hU)
  rw [stQ_P true] at C
  obtain ⟨L, hL⟩ : ∃ L, L = quoteL 34 (stP true) (elemsOf s) := ⟨_, rfl⟩
  rw [← hL] at C ⊢
  clear hL hT hG hU
  go_enter Tryd.func36, Tryd.ntmps36
  go_wp2_with (go_at_call 56; refine C.out.mono ?_; rintro e w1 ⟨rfl, hw⟩)
  go_ret
  exact ⟨rfl, hw⟩
theorem iQuoteToASCII_any (s : List UInt8) (w : World) (hs : s.length ≤ 10485760) (hT : PrintT w) (hG : GraphicT w) (hU : Utf8T w) : Calls Tryd.prog 16 #[.string (str s)] w fun e w' => e = .returned (.string (str (quoteL 34 (stP true) (elemsOf s)))) ∧ Below w.heap.size w w' := by
  have C := Lib.hid (sQuoteToASCII_any s w hs hT hG hU)
  obtain ⟨L, hL⟩ : ∃ L, L = quoteL 34 (stP true) (elemsOf s) := ⟨_, rfl⟩
  rw [← hL] at C ⊢
  clear hL hT hG hU
  go_enter Tryd.func16, Tryd.ntmps16
  go_wp2_with (go_at_call 36; refine C.out.mono ?_; rintro e w1 ⟨rfl, hw⟩)
  go_ret
  exact ⟨rfl, hw⟩
theorem sQuoteToGraphic_any (s : List UInt8) (w : World) (hs : s.length ≤ 10485760) (hT : PrintT w) (hG : GraphicT w) (hU : Utf8T w) : Calls Tryd.prog 35 #[.string (str s)] w fun e w' => e = .returned (.string (str (quoteL 34 stG (elemsOf s)))) ∧ Below w.heap.size w w' := by
  have C := Lib.hid (qw_any s false true w hs hT hG hU)
  rw [stQ_G] at C
  obtain ⟨L, hL⟩ : ∃ L, L = quoteL 34 stG (elemsOf s) := ⟨_, rfl⟩
  rw [← hL] at C ⊢
  clear hL hT hG hU
  go_enter Tryd.func35, Tryd.ntmps35
  go_wp2_with (go_at_call 56; refine C.out.mono ?_; rintro e w1 ⟨rfl, hw⟩)
  go_ret
  exact ⟨rfl, hw⟩
theorem iQuoteToGraphic_any (s : List UInt8) (w : World) (hs : s.length ≤ 10485760) (hT : PrintT w) (hG : GraphicT w) (hU : Utf8T w) : Calls Tryd.prog 15 #[.string (str s)] w fun e w' => e = .returned (.string (str (quoteL 34 stG (elemsOf s)))) ∧ Below w.heap.size w w' := by
  have C := Lib.hid (sQuoteToGraphic_any s w hs hT hG hU)
  obtain ⟨L, hL⟩ : ∃ L, L = quoteL 34 stG (elemsOf s) := ⟨_, rfl⟩
  rw [← hL] at C ⊢
  clear hL hT hG hU
  go_enter Tryd.func15, Tryd.ntmps15
  go_wp2_with (go_at_call 35; refine C.out.mono ?_; rintro e w1 ⟨rfl, hw⟩)
  go_ret
  exact ⟨rfl, hw⟩
end Go.Proofs.YthbnglkpkgpojaaDoor
