/-
  The walk of laws.FnUnquoted: it returns true. Printed by wip/gen/unqlaws.py.
-/
import Derived.Test.YthbnglkpkgpojaaDoorQuotes
import Derived.Test.YthbnglkpkgpojaaDoorUnquote
import Derived.Outline
namespace Go.Proofs.YthbnglkpkgpojaaDoor.fnUnquoted
open Go.RowKit
set_option maxRecDepth 100000
set_option linter.unusedVariables false
set_option linter.unusedSimpArgs false
theorem cells3 (w : World) (T : TypeId) (a b c : List UInt8) (k : Nat) (hk : k < 3) : ∃ x, x ∈ [a, b, c] ∧ (w.alloc (.cells #[.string (str a), .string (str b), .string (str c)] T)).cell? ⟨w.heap.size, k, none⟩ = some (.string (str x)) := by
  refine ⟨[a, b, c][k]'hk, List.getElem_mem _, ?_⟩
  rw [World.cell?_alloc_new]
  have : k = 0 ∨ k = 1 ∨ k = 2 := by omega
  rcases this with rfl | rfl | rfl <;> rfl
set_option maxHeartbeats 8000000 in
theorem walk (w : World) (a : ByteArray) (ha : a.size ≤ 1048576) (hL : laidMetH Tryd.prog Rows.fnUnquotedUptoRow.laid w) :
    Calls Tryd.prog 5 #[.string a] w fun e w' => e = .returned (.bool true) ∧ Below w.heap.size w w' := by
  have hT : PrintT w := printT_of hL (by kernel_rfl) (by simp [Rows.fnUnquotedUptoRow, Rows.laid_strconv_isPrint16]) (by simp [Rows.fnUnquotedUptoRow, Rows.laid_strconv_isNotPrint16]) (by simp [Rows.fnUnquotedUptoRow, Rows.laid_strconv_isPrint32]) (by simp [Rows.fnUnquotedUptoRow, Rows.laid_strconv_isNotPrint32])
  have hG : GraphicT w := graphicT_of hL (by kernel_rfl) (by simp [Rows.fnUnquotedUptoRow, Rows.laid_strconv_isGraphic])
  have hU : Utf8T w := utf8T_of hL (by kernel_rfl) (by simp [Rows.fnUnquotedUptoRow, Rows.laid_unicode_utf8_first]) (by simp [Rows.fnUnquotedUptoRow, Rows.laid_unicode_utf8_acceptRanges]; kernel_rfl)
  have h0 : Below w.heap.size w w := Below.refl _ _
  obtain ⟨s, rfl⟩ : ∃ s, a = str s := ⟨a.data.toList, (str_toList a).symm⟩
  rw [size_str] at ha
  have lP := quote_len (q := 34) (okP false) s
  have gP := quote_grows (okP false) s
  have CP := Lib.hid (show ∀ wx, Below w.heap.size w wx → Calls Tryd.prog 14 #[.string (str s)] wx fun e w' => e = .returned (.string (str (quoteL 34 (stP false) (elemsOf s)))) ∧ Below w.heap.size w w' from fun wx hb => (iQuote_any s wx (by omega) (hT.below hb) (hG.below hb) (hU.below hb)).mono fun e w' h => ⟨h.1, hb.trans (h.2.mono hb.size)⟩)
  have UP := Lib.hid (fun wx (hb : Below w.heap.size w wx) => iUnquote_text (okP false) s (by omega) wx (hU.below hb))
  have lA := quote_len (q := 34) (okP true) s
  have gA := quote_grows (okP true) s
  have CA := Lib.hid (show ∀ wx, Below w.heap.size w wx → Calls Tryd.prog 16 #[.string (str s)] wx fun e w' => e = .returned (.string (str (quoteL 34 (stP true) (elemsOf s)))) ∧ Below w.heap.size w w' from fun wx hb => (iQuoteToASCII_any s wx (by omega) (hT.below hb) (hG.below hb) (hU.below hb)).mono fun e w' h => ⟨h.1, hb.trans (h.2.mono hb.size)⟩)
  have UA := Lib.hid (fun wx (hb : Below w.heap.size w wx) => iUnquote_text (okP true) s (by omega) wx (hU.below hb))
  have lG := quote_len (q := 34) okG s
  have gG := quote_grows okG s
  have CG := Lib.hid (show ∀ wx, Below w.heap.size w wx → Calls Tryd.prog 15 #[.string (str s)] wx fun e w' => e = .returned (.string (str (quoteL 34 stG (elemsOf s)))) ∧ Below w.heap.size w w' from fun wx hb => (iQuoteToGraphic_any s wx (by omega) (hT.below hb) (hG.below hb) (hU.below hb)).mono fun e w' h => ⟨h.1, hb.trans (h.2.mono hb.size)⟩)
  have UG := Lib.hid (fun wx (hb : Below w.heap.size w wx) => iUnquote_text okG s (by omega) wx (hU.below hb))
  obtain ⟨LP, hPL⟩ : ∃ L, L = quoteL 34 (stP false) (elemsOf s) := ⟨_, rfl⟩
  rw [← hPL] at CP UP lP gP
  obtain ⟨LA, hAL⟩ : ∃ L, L = quoteL 34 (stP true) (elemsOf s) := ⟨_, rfl⟩
  rw [← hAL] at CA UA lA gA
  obtain ⟨LG, hGL⟩ : ∃ L, L = quoteL 34 stG (elemsOf s) := ⟨_, rfl⟩
  rw [← hGL] at CG UG lG gG
  obtain ⟨n, hn⟩ : ∃ n, n = s.length := ⟨_, rfl⟩
  have eS : (str s).size = n := by rw [size_str, hn]
  rw [← hn] at ha lP lA lG gP gA gG
  have hall := Lib.hid (show ∀ t ∈ [LP, LA, LG], n + 2 ≤ t.length ∧ t.length ≤ 4 * n + 2 ∧ ∀ wx, Below w.heap.size w wx → Calls Tryd.prog 20 #[.string (str t)] wx fun e w' => e = .returned (.tuple #[.string (str s), .bool true]) ∧ Below wx.heap.size wx w' by
    intro t ht
    simp only [List.mem_cons, List.not_mem_nil, or_false] at ht
    rcases ht with rfl | rfl | rfl
    · exact ⟨by omega, by omega, UP.out⟩
    · exact ⟨by omega, by omega, UA.out⟩
    · exact ⟨by omega, by omega, UG.out⟩)
  clear hL hT hG hU hPL hAL hGL hn lP lA lG gP gA gG UP UA UG
  go_enter Tryd.func5, Tryd.ntmps5
  go_wp2_with fail
  refine (CP.out _ h0).mono ?_
  rintro e w1 ⟨rfl, hb1⟩
  go_wp2_with fail
  refine (CA.out _ hb1).mono ?_
  rintro e w2 ⟨rfl, hb2⟩
  go_wp2_with fail
  refine (CG.out _ hb2).mono ?_
  rintro e w3 ⟨rfl, hb3⟩
  go_wp2_with fail
  go_loopw [15] (fun vk wr => ∃ k : Nat, vk = .int .i64 k ∧ k ≤ 3 ∧ Hid (Below (w3.heap.size + 1) (w3.alloc (.cells #[.string (str LP), .string (str LA), .string (str LG)] 9)) wr)) (fun vk _ => 3 - (intOf vk).toNat)
  case atStart => exact ⟨0, rfl, by omega, Below.refl _ _⟩
  case round =>
    obtain ⟨k, rfl, hk, hB⟩ := hrel
    have hbr : Below w.heap.size w wr := (hb3.trans ((Below.refl _ _).alloc hb3.size _)).trans (hB.out.mono (Nat.le_trans hb3.size (Nat.le_succ _)))
    by_cases hlt : k < 3
    · obtain ⟨t, ht, hcell0⟩ := cells3 w3 9 LP LA LG k hlt
      have hcell : wr.cell? ⟨w3.heap.size, k, none⟩ = some (.string (str t)) := by rw [hB.out.cell (p := ⟨w3.heap.size, k, none⟩) (by simp)]; exact hcell0
      obtain ⟨t1, t2, t3⟩ := hall.out t ht
      have CU := Lib.hid (show Calls Tryd.prog 20 #[.string (str t)] wr fun e w' => e = .returned (.tuple #[.string (str s), .bool true]) ∧ Below wr.heap.size wr w' from t3 wr hbr)
      obtain ⟨j, hj⟩ : ∃ n, n = t.length := ⟨_, rfl⟩
      have eT : (str t).size = j := by rw [size_str, hj]
      rw [← hj] at t1 t2
      clear ht hcell0 hj t3
      go_wp2_with (go_at_call 20; refine CU.out.mono ?_; rintro e w4 ⟨rfl, hw4⟩)
      all_goals first | (exfalso; omega) | skip
      go_roundw
      case rel => exact ⟨k + 1, by go_num, by omega, hB.out.trans (hw4.mono (by have := hB.out.size; simpa using this))⟩
      case measure => simp [intOf]; omega
    · go_wp2_with fail
      all_goals first | (exfalso; omega) | skip
      go_ret
      exact ⟨rfl, hbr⟩
end Go.Proofs.YthbnglkpkgpojaaDoor.fnUnquoted
