/-
  The walk of laws.FnPlain: it returns true. Printed by wip/gen/qlaws.py.
-/
import Derived.Test.YtpboiodigfdajaaDoorQuotes
import Derived.Test.YtpboiodigfdajaaDoorPlainQLaws
import Derived.Test.YtpboiodigfdajaaDoorStrWords
import Derived.Outline
namespace Go.Proofs.YtpboiodigfdajaaDoor.fnPlain
open Go.RowKit
set_option maxRecDepth 100000
set_option linter.unusedVariables false
set_option linter.unusedSimpArgs false
set_option maxHeartbeats 8000000 in
theorem walk (w : World) (a : ByteArray) (ha : a.size ≤ 1048576) (hL : laidMetH Tryd.prog Rows.fnPlainUptoRow.laid w) :
    Calls Tryd.prog 10 #[.string a] w fun e w' => e = .returned (.bool true) ∧ Below w.heap.size w w' := by
  have hT : PrintT w := printT_of hL (by kernel_rfl) (by simp [Rows.fnPlainUptoRow, Rows.laid_strconv_isPrint16]) (by simp [Rows.fnPlainUptoRow, Rows.laid_strconv_isNotPrint16]) (by simp [Rows.fnPlainUptoRow, Rows.laid_strconv_isPrint32]) (by simp [Rows.fnPlainUptoRow, Rows.laid_strconv_isNotPrint32])
  have hG : GraphicT w := graphicT_of hL (by kernel_rfl) (by simp [Rows.fnPlainUptoRow, Rows.laid_strconv_isGraphic])
  have hU : Utf8T w := utf8T_of hL (by kernel_rfl) (by simp [Rows.fnPlainUptoRow, Rows.laid_unicode_utf8_first]) (by simp [Rows.fnPlainUptoRow, Rows.laid_unicode_utf8_acceptRanges]; kernel_rfl)
  obtain ⟨s, rfl⟩ : ∃ s, a = str s := ⟨a.data.toList, (str_toList a).symm⟩
  rw [size_str] at ha
  have CP := Lib.hid (fun wx (hb : Below w.heap.size w wx) => iQuote_any s wx (by omega) (hT.below hb) (hG.below hb) (hU.below hb))
  have CA := Lib.hid (fun wx (hb : Below w.heap.size w wx) => iQuoteToASCII_any s wx (by omega) (hT.below hb) (hG.below hb) (hU.below hb))
  have CG := Lib.hid (fun wx (hb : Below w.heap.size w wx) => iQuoteToGraphic_any s wx (by omega) (hT.below hb) (hG.below hb) (hU.below hb))
  have hpl : (∀ c ∈ s, 32 ≤ c.toNat ∧ c.toNat ≤ 126 ∧ c.toNat ≠ 34 ∧ c.toNat ≠ 92) → quoteL 34 (stP false) (elemsOf s) = 34 :: (s ++ [34]) ∧ quoteL 34 (stP true) (elemsOf s) = 34 :: (s ++ [34]) ∧ quoteL 34 stG (elemsOf s) = 34 :: (s ++ [34]) := fun h => ⟨quote_plain (okP false).keeps h, quote_plain (okP true).keeps h, quote_plain okG.keeps h⟩
  have HPL := Lib.hid hpl
  obtain ⟨n, hn⟩ : ∃ n, n = s.length := ⟨_, rfl⟩
  have eS : (str s).size = n := by rw [size_str, hn]
  have HN := Lib.hid hn
  rw [← hn] at ha
  have c1 : (ByteArray.mk #[34]) ++ str s = str (34 :: s) := str_append [34] s
  have c2 : str (34 :: s) ++ (ByteArray.mk #[34]) = str (34 :: (s ++ [34])) := str_append (34 :: s) [34]
  have z1 : ¬ 9223372036854775807 < (str [34]).size + (str s).size := by rw [size_str, eS]; simp; omega
  have z1' : ¬ 9223372036854775807 < (str [34]).size + n := by rw [size_str]; simp; omega
  have z2 : ¬ 9223372036854775807 < (str (34 :: s)).size + (str [34]).size := by rw [size_str, size_str]; simp; omega
  obtain ⟨X, hX⟩ : ∃ X, X = 34 :: s := ⟨_, rfl⟩
  obtain ⟨Y, hY⟩ : ∃ Y, Y = 34 :: (s ++ [34]) := ⟨_, rfl⟩
  rw [← hX] at c1 c2 z2
  rw [← hY] at c2 HPL
  clear hL hT hG hU hpl hn hX hY
  go_enter Tryd.func10, Tryd.ntmps10
  go_wp2_with fail
  go_loop [3] (fun vi => ∃ i : Nat, vi = .int .i64 i ∧ i ≤ n ∧ Hid (∀ j c, j < i → s[j]? = some c → 32 ≤ c.toNat ∧ c.toNat ≤ 126 ∧ c.toNat ≠ 34 ∧ c.toNat ≠ 92)) (fun vi => n - (intOf vi).toNat)
  case atStart => exact ⟨0, rfl, by omega, fun j c h => by omega⟩
  case round =>
    obtain ⟨i, rfl, hi, hA⟩ := hrel
    by_cases hlt : i < n
    · obtain ⟨c, hc⟩ : ∃ c, s[i]? = some c := ⟨s[i]'(by rw [← HN.out]; exact hlt), List.getElem?_eq_getElem (by rw [← HN.out]; exact hlt)⟩
      have hidx := fun wx => idx_str (P := Tryd.prog) 9 Tryd.underlying9 .i64 hc wx
      obtain ⟨y, hy⟩ : ∃ y : Int, y = (c.toNat : Int) := ⟨_, rfl⟩
      rw [← hy] at hidx
      have y0 : 0 ≤ y := by omega
      by_cases b1 : y < 32
      · clear hc hy
        go_wp2_with fail
        all_goals first | (exfalso; omega) | skip
        go_ret
        exact ⟨rfl, Below.refl _ _⟩
      by_cases b2 : 126 < y
      · clear hc hy
        go_wp2_with fail
        all_goals first | (exfalso; omega) | skip
        go_ret
        exact ⟨rfl, Below.refl _ _⟩
      by_cases b3 : y = 34
      · subst b3
        clear hc hy
        go_wp2_with fail
        all_goals first | (exfalso; omega) | skip
        go_ret
        exact ⟨rfl, Below.refl _ _⟩
      by_cases b4 : y = 92
      · subst b4
        clear hc hy
        go_wp2_with fail
        all_goals first | (exfalso; omega) | skip
        go_ret
        exact ⟨rfl, Below.refl _ _⟩
      have HA := Lib.hid (show ∀ j c, j < i + 1 → s[j]? = some c → 32 ≤ c.toNat ∧ c.toNat ≤ 126 ∧ c.toNat ≠ 34 ∧ c.toNat ≠ 92 from fun j c' hj hjc => by
        by_cases e : j < i
        · exact hA.out j c' e hjc
        · obtain rfl : j = i := by omega
          obtain rfl : c = c' := Option.some.inj (hc.symm.trans hjc)
          omega)
      have q3 : (y == 34) = false := by simpa using b3
      have q4 : (y == 92) = false := by simpa using b4
      clear hc hy b3 b4
      go_wp2_with fail
      all_goals first | (exfalso; omega) | skip
      go_round
      case rel => exact ⟨i + 1, by go_num, by omega, HA.out⟩
      case measure => simp [intOf]; omega
    · obtain ⟨e1, e2, e3⟩ := HPL.out fun c hc => by
        obtain ⟨j, hj⟩ := List.getElem?_of_mem hc
        exact hA.out j c (by have := (List.getElem?_eq_some_iff.1 hj).1; have := HN.out; omega) hj
      rw [e1] at CP
      rw [e2] at CA
      rw [e3] at CG
      have eY : (str Y).toList = Y := by rw [Lib.toList_data]; rfl
      clear e1 e2 e3
      go_wp2_with (first
        | (go_at_call 16; refine (CP.out w (Below.refl _ _)).mono ?_; rintro e w1 ⟨rfl, hw1⟩)
        | (go_at_call 19; refine (CA.out w1 hw1).mono ?_; rintro e w2 ⟨rfl, hw2⟩; have hb2 := hw1.trans (hw2.mono hw1.size))
        | (go_at_call 20; refine (CG.out w2 hb2).mono ?_; rintro e w3 ⟨rfl, hw3⟩; have hb3 := hb2.trans (hw3.mono hb2.size)))
      all_goals first | (exfalso; omega) | skip
      go_ret
      exact ⟨by simp, hb3⟩
end Go.Proofs.YtpboiodigfdajaaDoor.fnPlain
