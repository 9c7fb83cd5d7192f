/-
  The walk of laws.FnNumberQuoted: it returns true. Printed by wip/gen/numq.py.
-/
import Derived.Test.YthbnglkpkgpojaaDoorParseI
import Derived.Test.YthbnglkpkgpojaaDoorErrText
import Derived.Test.YthbnglkpkgpojaaDoorFmt
import Derived.Test.YthbnglkpkgpojaaDoorPlainFive
import Derived.Test.YthbnglkpkgpojaaDoorPlainRoundI
import Derived.Test.YthbnglkpkgpojaaDoorNumRange
import Derived.Test.YthbnglkpkgpojaaDoorQuotes
import Derived.Test.YthbnglkpkgpojaaDoorPlainQLaws
import Derived.Outline
namespace Go.Proofs.YthbnglkpkgpojaaDoor.fnNumberQuoted
open Go.RowKit
set_option maxRecDepth 100000
set_option linter.unusedVariables false
set_option linter.unusedSimpArgs false
theorem revB_chars {b : Nat} (h2 : 2 ≤ b) (h36 : b ≤ 36) : ∀ u, ∀ c ∈ revB b u, ∃ d, d < 36 ∧ c = dgc d := by
  intro u
  induction u using Nat.strongRecOn with
  | _ u ih =>
    intro c hc
    by_cases hu : u < b
    · rw [revB_small hu] at hc
      exact ⟨u, by omega, by simpa using hc⟩
    · rw [revB_big h2 (by omega)] at hc
      rcases List.mem_cons.1 hc with rfl | hc
      · exact ⟨u % b, by have := Nat.mod_lt u (show 0 < b by omega); omega, rfl⟩
      · exact ih (u / b) (Nat.div_lt_self (by omega) (by omega)) c hc
theorem dgc_plain_fin : ∀ d : Fin 36, 32 ≤ (dgc d.val).toNat ∧ (dgc d.val).toNat ≤ 126 ∧ (dgc d.val).toNat ≠ 34 ∧ (dgc d.val).toNat ≠ 92 := by decide +kernel
theorem fmtI_plain {b : Nat} (h2 : 2 ≤ b) (h36 : b ≤ 36) (i : Int) : ∀ c ∈ fmtI b i, 32 ≤ c.toNat ∧ c.toNat ≤ 126 ∧ c.toNat ≠ 34 ∧ c.toNat ≠ 92 := by
  have key : ∀ u, ∀ c ∈ digB b u, 32 ≤ c.toNat ∧ c.toNat ≤ 126 ∧ c.toNat ≠ 34 ∧ c.toNat ≠ 92 := fun u c hc => by
    obtain ⟨d, hd, rfl⟩ := revB_chars h2 h36 u c (by rw [digB] at hc; exact List.mem_reverse.1 hc)
    exact dgc_plain_fin ⟨d, hd⟩
  intro c hc
  rw [fmtI] at hc
  split at hc
  · rcases List.mem_cons.1 hc with rfl | hc
    · decide
    · exact key _ c hc
  · exact key _ c hc
theorem fmtI_ne (b : Nat) (i : Int) : fmtI b i ≠ [] := by
  rw [fmtI]; split
  · simp
  · exact digB_ne
theorem pUe_mark {b : Nat} (h2 : 2 ≤ b) (h36 : b ≤ 36) (u : Nat) (hu : u < 18446744073709551616) : pUe (digB b u ++ [33]) b 64 = (0, 2) :=
  pUe_bad h2 h36 (digB b u) [] 33 (digB_lt_b h2 h36 u) (by have : digN 33 = 99 := by decide
                                                           omega) (by rw [foldV_digB h2 h36]; omega)
theorem pIe_mark {b : Nat} (h2 : 2 ≤ b) (h36 : b ≤ 36) (i : Int) (h0 : -9223372036854775808 ≤ i) (h1 : i ≤ 9223372036854775807) : pIe (fmtI b i ++ [33]) b 64 = (0, 2) := by
  refine pIe_of_bad ?_
  rw [fmtI]
  split
  · rw [List.cons_append, noSign_minus]
    exact pUe_mark h2 h36 _ (by omega)
  · have hh := digB_head h2 h36 i.toNat
    have hz : (digB b i.toNat ++ [33])[0]? = (digB b i.toNat)[0]? := List.getElem?_append_left (List.length_pos_iff.2 digB_ne)
    rw [noSign, if_neg (by rw [hz]; exact fun h => h.elim hh.1 hh.2)]
    exact pUe_mark h2 h36 _ (by omega)
set_option maxHeartbeats 8000000 in
theorem walk (w : World) (i : Int) (hi : (Lit.int .i64 i).wf = true) (base : Int) (hbase : (Lit.int .i64 base).wf = true) (hL : laidMetH Tryd.prog Rows.fnNumberQuotedRow.laid w) :
    Calls Tryd.prog 8 #[.int .i64 i, .int .i64 base] w fun e w' => e = .returned (.bool true) ∧ Below w.heap.size w w' := by
  have hN : NumT w := ⟨pow10T_of hL (by kernel_rfl) (by simp [Rows.fnNumberQuotedRow]), bruT_of hL (by kernel_rfl) (by simp [Rows.fnNumberQuotedRow])⟩
  obtain ⟨aS, aR, hE⟩ := errT_of hL (by kernel_rfl) (by simp [Rows.fnNumberQuotedRow, Rows.laid_strconv_ErrSyntax, synText]) (by simp [Rows.fnNumberQuotedRow, Rows.laid_strconv_ErrRange, rngText])
  have hT : PrintT w := printT_of hL (by kernel_rfl) (by simp [Rows.fnNumberQuotedRow, Rows.laid_strconv_isPrint16]) (by simp [Rows.fnNumberQuotedRow, Rows.laid_strconv_isNotPrint16]) (by simp [Rows.fnNumberQuotedRow, Rows.laid_strconv_isPrint32]) (by simp [Rows.fnNumberQuotedRow, Rows.laid_strconv_isNotPrint32])
  have hG : GraphicT w := graphicT_of hL (by kernel_rfl) (by simp [Rows.fnNumberQuotedRow, Rows.laid_strconv_isGraphic])
  have hU : Utf8T w := utf8T_of hL (by kernel_rfl) (by simp [Rows.fnNumberQuotedRow, Rows.laid_unicode_utf8_first]) (by simp [Rows.fnNumberQuotedRow, Rows.laid_unicode_utf8_acceptRanges]; kernel_rfl)
  have h0 : Below w.heap.size w w := Below.refl _ _
  have hi := wf_i64 hi
  have hbase := wf_i64 hbase
  rcases base_cases base with h | h | ⟨b, rfl, h2, h36⟩
  · clear hL hN hE hT hG hU
    go_enter Tryd.func8, Tryd.ntmps8
    go_wp2_with fail
    all_goals first | (exfalso; omega) | skip
    go_ret
    exact ⟨rfl, h0⟩
  · clear hL hN hE hT hG hU
    go_enter Tryd.func8, Tryd.ntmps8
    go_wp2_with fail
    all_goals first | (exfalso; omega) | skip
    go_ret
    exact ⟨rfl, h0⟩
  have lI := fmtI_length (b := b) (i := i) h2 hi.1 hi.2
  have hpl := fmtI_plain h2 h36 i
  have hq := quote_plain (okP false).keeps hpl
  have hpar := pIe_mark h2 h36 i hi.1 hi.2
  have hne := fmtI_ne b i
  have lQ := quote_len (q := 34) (okP false) (fmtI b i ++ [33])
  have FI := Lib.hid (show ∀ wx, Below w.heap.size w wx → Calls Tryd.prog 23 #[.int .i64 i, .int .i64 b] wx fun e w' => e = .returned (.string (str (fmtI b i))) ∧ Below w.heap.size w w' from fun wx hb => (FormatInt_any i b wx h2 h36 hi.1 hi.2 (hN.below hb)).mono fun e w' h => ⟨h.1, hb.trans (h.2.mono hb.size)⟩)
  have PI := Lib.hid (show ∀ wx, Below w.heap.size w wx → Calls Tryd.prog 24 #[.string (str (fmtI b i ++ [33])), .int .i64 b, .int .i64 64] wx fun e w' => e = .returned (.tuple #[.int .i64 0, .agg #[.int .i64 1, .string (str piText), .string (str (fmtI b i ++ [33]))]]) ∧ Below w.heap.size w w' from fun wx hb => (ParseInt_syn (fmtI b i ++ [33]) (b : Int) 64 wx (.inr (by omega)) (by omega) (by omega) (by simp; omega) 0 (by rw [show ((b : Int)).toNat = b by omega]; exact hpar) aS aR (hE.below hb)).mono fun e w' h => ⟨h.1, hb.trans (h.2.mono hb.size)⟩)
  have ET := Lib.hid (show ∀ wx, Below w.heap.size w wx → Calls Tryd.prog 25 #[.string (str piText), .string (str (fmtI b i ++ [33])), .int .i64 1] wx fun e w' => e = .returned (.string (str (errTextL piText (quoteL 34 (stP false) (elemsOf (fmtI b i ++ [33]))) synText))) ∧ Below wx.heap.size wx w' from fun wx hb => by
    have h := ErrorText_any wx aS aR (hE.below hb) piText (fmtI b i ++ [33]) 1 (by decide) (by simp; omega) (hT.below hb) (hG.below hb) (hU.below hb)
    rw [reasonL, if_pos rfl] at h; exact h)
  have QS := Lib.hid (show ∀ wx, Below w.heap.size w wx → Calls Tryd.prog 14 #[.string (str (fmtI b i))] wx fun e w' => e = .returned (.string (str (34 :: (fmtI b i ++ [34])))) ∧ Below wx.heap.size wx w' from fun wx hb => by
    have h := iQuote_any (fmtI b i) wx (by omega) (hT.below hb) (hG.below hb) (hU.below hb)
    rw [hq] at h; exact h)
  have QM := Lib.hid (show ∀ wx, Below w.heap.size w wx → Calls Tryd.prog 14 #[.string (str (fmtI b i ++ [33]))] wx fun e w' => e = .returned (.string (str (quoteL 34 (stP false) (elemsOf (fmtI b i ++ [33]))))) ∧ Below wx.heap.size wx w' from fun wx hb => iQuote_any (fmtI b i ++ [33]) wx (by simp; omega) (hT.below hb) (hG.below hb) (hU.below hb))
  obtain ⟨s, hs⟩ : ∃ s, s = fmtI b i := ⟨_, rfl⟩
  rw [← hs] at lI FI PI ET QS QM hne lQ
  have c0 : str s ++ (ByteArray.mk #[33]) = str (s ++ [33]) := str_append s [33]
  have c1 : (ByteArray.mk #[34]) ++ str s = str (34 :: s) := str_append [34] s
  have c2 : str (34 :: s) ++ (ByteArray.mk #[34]) = str (34 :: (s ++ [34])) := str_append (34 :: s) [34]
  obtain ⟨M, hM⟩ : ∃ M, M = s ++ [33] := ⟨_, rfl⟩
  rw [← hM] at PI ET QM c0 lQ
  have lM : M.length = s.length + 1 := by rw [hM]; simp
  obtain ⟨Q, hQ⟩ : ∃ Q, Q = quoteL 34 (stP false) (elemsOf M) := ⟨_, rfl⟩
  rw [← hQ] at ET QM lQ
  have c3 : (ByteArray.mk #[115, 116, 114, 99, 111, 110, 118, 46, 80, 97, 114, 115, 101, 73, 110, 116, 58, 32, 112, 97, 114, 115, 105, 110, 103, 32]) ++ str Q = str ([115, 116, 114, 99, 111, 110, 118, 46, 80, 97, 114, 115, 101, 73, 110, 116, 58, 32, 112, 97, 114, 115, 105, 110, 103, 32] ++ Q) := str_append [115, 116, 114, 99, 111, 110, 118, 46, 80, 97, 114, 115, 101, 73, 110, 116, 58, 32, 112, 97, 114, 115, 105, 110, 103, 32] Q
  have c4 : str ([115, 116, 114, 99, 111, 110, 118, 46, 80, 97, 114, 115, 101, 73, 110, 116, 58, 32, 112, 97, 114, 115, 105, 110, 103, 32] ++ Q) ++ (ByteArray.mk #[58, 32, 105, 110, 118, 97, 108, 105, 100, 32, 115, 121, 110, 116, 97, 120]) = str ([115, 116, 114, 99, 111, 110, 118, 46, 80, 97, 114, 115, 101, 73, 110, 116, 58, 32, 112, 97, 114, 115, 105, 110, 103, 32] ++ Q ++ [58, 32, 105, 110, 118, 97, 108, 105, 100, 32, 115, 121, 110, 116, 97, 120]) := str_append ([115, 116, 114, 99, 111, 110, 118, 46, 80, 97, 114, 115, 101, 73, 110, 116, 58, 32, 112, 97, 114, 115, 105, 110, 103, 32] ++ Q) [58, 32, 105, 110, 118, 97, 108, 105, 100, 32, 115, 121, 110, 116, 97, 120]
  have eT : errTextL piText Q synText = [115, 116, 114, 99, 111, 110, 118, 46, 80, 97, 114, 115, 101, 73, 110, 116, 58, 32, 112, 97, 114, 115, 105, 110, 103, 32] ++ Q ++ [58, 32, 105, 110, 118, 97, 108, 105, 100, 32, 115, 121, 110, 116, 97, 120] := by simp [errTextL, piText, synText]
  rw [eT] at ET
  have z0 : ¬ 9223372036854775807 < (str s).size + (str [33]).size := by rw [size_str, size_str]; simp; omega
  have z0' : ¬ 9223372036854775807 < (str s).size + 1 := by rw [size_str]; omega
  have z1 : ¬ 9223372036854775807 < (str [34]).size + (str s).size := by rw [size_str, size_str]; simp; omega
  have z1' : ¬ 9223372036854775807 < 1 + (str s).size := by rw [size_str]; omega
  have z2 : ¬ 9223372036854775807 < (str (34 :: s)).size + (str [34]).size := by rw [size_str, size_str]; simp; omega
  have z2' : ¬ 9223372036854775807 < (str (34 :: s)).size + 1 := by rw [size_str]; simp; omega
  have z3 : ¬ 9223372036854775807 < (str [115, 116, 114, 99, 111, 110, 118, 46, 80, 97, 114, 115, 101, 73, 110, 116, 58, 32, 112, 97, 114, 115, 105, 110, 103, 32]).size + (str Q).size := by rw [size_str, size_str]; simp; omega
  have z3' : ¬ 9223372036854775807 < 26 + (str Q).size := by rw [size_str]; omega
  have z4 : ¬ 9223372036854775807 < (str ([115, 116, 114, 99, 111, 110, 118, 46, 80, 97, 114, 115, 101, 73, 110, 116, 58, 32, 112, 97, 114, 115, 105, 110, 103, 32] ++ Q)).size + (str [58, 32, 105, 110, 118, 97, 108, 105, 100, 32, 115, 121, 110, 116, 97, 120]).size := by rw [size_str, size_str]; simp; omega
  have z4' : ¬ 9223372036854775807 < (str ([115, 116, 114, 99, 111, 110, 118, 46, 80, 97, 114, 115, 101, 73, 110, 116, 58, 32, 112, 97, 114, 115, 105, 110, 103, 32] ++ Q)).size + 16 := by rw [size_str]; simp; omega
  obtain ⟨Y, hY⟩ : ∃ Y, Y = 34 :: (s ++ [34]) := ⟨_, rfl⟩
  rw [← hY] at QS c2
  obtain ⟨X, hX⟩ : ∃ X, X = 34 :: s := ⟨_, rfl⟩
  rw [← hX] at c1 c2 z2 z2'
  obtain ⟨Z2, hZ2⟩ : ∃ Z, Z = [115, 116, 114, 99, 111, 110, 118, 46, 80, 97, 114, 115, 101, 73, 110, 116, 58, 32, 112, 97, 114, 115, 105, 110, 103, 32] ++ Q ++ [58, 32, 105, 110, 118, 97, 108, 105, 100, 32, 115, 121, 110, 116, 97, 120] := ⟨_, rfl⟩
  rw [← hZ2] at ET c4
  obtain ⟨Z1, hZ1⟩ : ∃ Z, Z = [115, 116, 114, 99, 111, 110, 118, 46, 80, 97, 114, 115, 101, 73, 110, 116, 58, 32, 112, 97, 114, 115, 105, 110, 103, 32] ++ Q := ⟨_, rfl⟩
  rw [← hZ1] at c3 c4 z4 z4'
  have hem : (str s).toList.isEmpty = false := by rw [Lib.toList_data]; simpa [str] using hne
  have hem2 : ¬ (str s).toList = [] := by rw [Lib.toList_data]; exact hne
  have g1 : decide ((b : Int) < 2) = false := by simp; omega
  have g2 : decide (36 < (b : Int)) = false := by simp; omega
  clear hL hN hE hT hG hU hi hbase lI hpl hq hpar hne lQ hs hM lM hQ eT hY hX hZ2 hZ1
  go_enter Tryd.func8, Tryd.ntmps8
  go_wp2_with fail
  all_goals first | (exfalso; omega) | skip
  refine (FI.out _ h0).mono ?_
  rintro e w1 ⟨rfl, hb1⟩
  go_wp2_with fail
  all_goals first | (exfalso; omega) | skip
  refine (PI.out _ hb1).mono ?_
  rintro e w2 ⟨rfl, hb2⟩
  go_wp2_with fail
  all_goals first | (exfalso; omega) | skip
  have hb3 : Below w.heap.size w (w2.alloc (.cells #[.int .i64 1, .string (str piText), .string (str M)] 34)) := hb2.trans ((Below.refl _ _).alloc hb2.size _)
  have hcl : (w2.alloc (.cells #[.int .i64 1, .string (str piText), .string (str M)] 34)).cell? ⟨w2.heap.size, 2, none⟩ = some (.string (str M)) := by rw [World.cell?_alloc_new]; rfl
  have hsz : w2.heap.size < (w2.alloc (.cells #[.int .i64 1, .string (str piText), .string (str M)] 34)).heap.size := by simp
  refine (ET.out _ hb3).mono ?_
  rintro e w4 ⟨rfl, hw4⟩
  have hb4 : Below w.heap.size w w4 := hb3.trans (hw4.mono hb3.size)
  go_wp2_with fail
  all_goals first | (exfalso; omega) | skip
  refine (QS.out _ hb4).mono ?_
  rintro e w5 ⟨rfl, hw5⟩
  have hb5 : Below w.heap.size w w5 := hb4.trans (hw5.mono hb4.size)
  have hcl5 : w5.cell? ⟨w2.heap.size, 2, none⟩ = some (.string (str M)) := by
    rw [hw5.cell (p := ⟨w2.heap.size, 2, none⟩) (Nat.lt_of_lt_of_le hsz hw4.size), hw4.cell (p := ⟨w2.heap.size, 2, none⟩) hsz]; exact hcl
  go_wp2_with fail
  all_goals first | (exfalso; omega) | skip
  refine (QM.out _ hb5).mono ?_
  rintro e w6 ⟨rfl, hw6⟩
  go_wp2_with fail
  all_goals first | (exfalso; omega) | skip
  go_ret
  exact ⟨by first | rfl | simp, hb5.trans (hw6.mono hb5.size)⟩
end Go.Proofs.YthbnglkpkgpojaaDoor.fnNumberQuoted
