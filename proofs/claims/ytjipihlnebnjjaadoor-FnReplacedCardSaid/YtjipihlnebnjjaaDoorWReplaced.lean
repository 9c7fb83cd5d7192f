/-
  The walk of laws.FnReplaced: it returns true.
-/
import Derived.Test.YtjipihlnebnjjaaDoorQuoteRunes
namespace Go.Proofs.YtjipihlnebnjjaaDoor.fnReplaced
open Go.RowKit
set_option linter.unusedVariables false
theorem fix_bad {r : Int} (h : isCP r = false) : fixR r = 65533 := by simp [fixR, h]
set_option maxHeartbeats 1000000 in
theorem walk (w : World) (r : Int) (hr : (Lit.int .i32 r).wf = true) (hL : laidMetH Tryd.prog Rows.fnReplacedRow.laid w) :
    Calls Tryd.prog 6 #[.int .i32 r] w fun e w' => e = .returned (.bool true) ∧ Below w.heap.size w w' := by
  have hT : PrintT w := printT_of hL (by kernel_rfl) (by simp [Rows.fnReplacedRow, Rows.laid_strconv_isPrint16]) (by simp [Rows.fnReplacedRow, Rows.laid_strconv_isNotPrint16]) (by simp [Rows.fnReplacedRow, Rows.laid_strconv_isPrint32]) (by simp [Rows.fnReplacedRow, Rows.laid_strconv_isNotPrint32])
  have hG : GraphicT w := graphicT_of hL (by kernel_rfl) (by simp [Rows.fnReplacedRow, Rows.laid_strconv_isGraphic])
  have C1 := Lib.hid (isCodePoint_any r w)
  have HT := Lib.hid hT
  have HG := Lib.hid hG
  clear hL hT hG hr
  cases hc : isCP r
  · have e1 := fix_bad hc
    have e2 : fixR 65533 = 65533 := by decide
    obtain ⟨L1, h1⟩ : ∃ L, L = quoteL 39 (stP false) [65533] := ⟨_, rfl⟩
    obtain ⟨L2, h2⟩ : ∃ L, L = quoteL 39 (stP true) [65533] := ⟨_, rfl⟩
    obtain ⟨L3, h3⟩ : ∃ L, L = quoteL 39 stG [65533] := ⟨_, rfl⟩
    have a1 := fun (x : Int) (hx : fixR x = 65533) (W : World) (hb : Below w.heap.size w W) => Lib.hid (iQuoteRune_any x W (HT.out.below hb) (HG.out.below hb))
    have b1 : ∀ (x : Int) (hx : fixR x = 65533) (W : World) (hb : Below w.heap.size w W), Hid (Calls Tryd.prog 16 #[.int .i32 x] W fun e w' => e = .returned (.string (str L1)) ∧ Below W.heap.size W w') := fun x hx W hb => by
      have := iQuoteRune_any x W (HT.out.below hb) (HG.out.below hb)
      rwa [hx, ← h1] at this
    have b2 : ∀ (x : Int) (hx : fixR x = 65533) (W : World) (hb : Below w.heap.size w W), Hid (Calls Tryd.prog 19 #[.int .i32 x] W fun e w' => e = .returned (.string (str L2)) ∧ Below W.heap.size W w') := fun x hx W hb => by
      have := iQuoteRuneToASCII_any x W (HT.out.below hb) (HG.out.below hb)
      rwa [hx, ← h2] at this
    have b3 : ∀ (x : Int) (hx : fixR x = 65533) (W : World) (hb : Below w.heap.size w W), Hid (Calls Tryd.prog 20 #[.int .i32 x] W fun e w' => e = .returned (.string (str L3)) ∧ Below W.heap.size W w') := fun x hx W hb => by
      have := iQuoteRuneToGraphic_any x W (HT.out.below hb) (HG.out.below hb)
      rwa [hx, ← h3] at this
    have hne : ¬ (str L1).toList = [] := by
      intro e
      have : L1 = [] := by rwa [ByteArray.toList_eq] at e
      rw [h1] at this
      simp [quoteL] at this
    have E1 := Lib.hid e1
    have E2 := Lib.hid e2
    rw [hc] at C1
    clear a1 e1 e2 h1 h2 h3 hc
    go_enter Tryd.func6, Tryd.ntmps6
    go_wp2_with fail
    refine C1.out.mono ?_
    rintro e w0 ⟨rfl, rfl⟩
    go_wp2_with fail
    refine (b1 _ E1.out _ (Below.refl _ _)).out.mono ?_
    rintro e w1 ⟨rfl, hw1⟩
    go_wp2_with fail
    refine (b1 _ E2.out _ hw1).out.mono ?_
    rintro e w2 ⟨rfl, hw2⟩
    have hb2 := hw1.trans (hw2.mono hw1.size)
    go_wp2_with fail
    refine (b2 _ E1.out _ hb2).out.mono ?_
    rintro e w3 ⟨rfl, hw3⟩
    have hb3 := hb2.trans (hw3.mono hb2.size)
    go_wp2_with fail
    refine (b2 _ E2.out _ hb3).out.mono ?_
    rintro e w4 ⟨rfl, hw4⟩
    have hb4 := hb3.trans (hw4.mono hb3.size)
    go_wp2_with fail
    refine (b3 _ E1.out _ hb4).out.mono ?_
    rintro e w5 ⟨rfl, hw5⟩
    have hb5 := hb4.trans (hw5.mono hb4.size)
    go_wp2_with fail
    refine (b3 _ E2.out _ hb5).out.mono ?_
    rintro e w6 ⟨rfl, hw6⟩
    have hb6 := hb5.trans (hw6.mono hb5.size)
    go_wp2_with fail
    refine (b1 _ E2.out _ hb6).out.mono ?_
    rintro e w7 ⟨rfl, hw7⟩
    have hb7 := hb6.trans (hw7.mono hb6.size)
    go_wp2
    go_ret
    exact ⟨by simp [hne], hb7⟩
  · rw [hc] at C1
    clear hc
    go_enter Tryd.func6, Tryd.ntmps6
    go_wp2_with (go_at_call 22; refine C1.out.mono ?_; rintro e w0 ⟨rfl, rfl⟩)
    go_ret
    exact ⟨rfl, Below.refl _ _⟩
end Go.Proofs.YtjipihlnebnjjaaDoor.fnReplaced
