/-
  The walk of laws.FnQuoteLength: it returns true. Printed by wip/gen/qlaws.py.
-/
import Derived.Test.YtpboiodigfdajaaDoorQuotes
import Derived.Test.YtpboiodigfdajaaDoorPlainQLaws
import Derived.Test.YtpboiodigfdajaaDoorStrWords
import Derived.Outline
namespace Go.Proofs.YtpboiodigfdajaaDoor.fnQuoteLength
open Go.RowKit
set_option maxRecDepth 100000
set_option linter.unusedVariables false
set_option linter.unusedSimpArgs false
theorem cells3 (w : World) (T : TypeId) (a b c : List UInt8) (k : Nat) (hk : k < 3) : ∃ x, x ∈ [a, b, c] ∧ (w.alloc (.cells #[.string (str a), .string (str b), .string (str c)] T)).cell? ⟨w.heap.size, k, none⟩ = some (.string (str x)) := by
  refine ⟨[a, b, c][k]'hk, List.getElem_mem _, ?_⟩
  rw [World.cell?_alloc_new]
  have : k = 0 ∨ k = 1 ∨ k = 2 := by omega
  rcases this with rfl | rfl | rfl <;> rfl
set_option maxHeartbeats 8000000 in
theorem walk (w : World) (a : ByteArray) (ha : a.size ≤ 1048576) (hL : laidMetH Tryd.prog Rows.fnQuoteLengthUptoRow.laid w) :
    Calls Tryd.prog 12 #[.string a] w fun e w' => e = .returned (.bool true) ∧ Below w.heap.size w w' := by
  have hT : PrintT w := printT_of hL (by kernel_rfl) (by simp [Rows.fnQuoteLengthUptoRow, Rows.laid_strconv_isPrint16]) (by simp [Rows.fnQuoteLengthUptoRow, Rows.laid_strconv_isNotPrint16]) (by simp [Rows.fnQuoteLengthUptoRow, Rows.laid_strconv_isPrint32]) (by simp [Rows.fnQuoteLengthUptoRow, Rows.laid_strconv_isNotPrint32])
  have hG : GraphicT w := graphicT_of hL (by kernel_rfl) (by simp [Rows.fnQuoteLengthUptoRow, Rows.laid_strconv_isGraphic])
  have hU : Utf8T w := utf8T_of hL (by kernel_rfl) (by simp [Rows.fnQuoteLengthUptoRow, Rows.laid_unicode_utf8_first]) (by simp [Rows.fnQuoteLengthUptoRow, Rows.laid_unicode_utf8_acceptRanges]; kernel_rfl)
  obtain ⟨s, rfl⟩ : ∃ s, a = str s := ⟨a.data.toList, (str_toList a).symm⟩
  rw [size_str] at ha
  have CP := Lib.hid (fun wx (hb : Below w.heap.size w wx) => iQuote_any s wx (by omega) (hT.below hb) (hG.below hb) (hU.below hb))
  have CA := Lib.hid (fun wx (hb : Below w.heap.size w wx) => iQuoteToASCII_any s wx (by omega) (hT.below hb) (hG.below hb) (hU.below hb))
  have CG := Lib.hid (fun wx (hb : Below w.heap.size w wx) => iQuoteToGraphic_any s wx (by omega) (hT.below hb) (hG.below hb) (hU.below hb))
  have lP := quote_len (q := 34) (okP false) s
  have lA := quote_len (q := 34) (okP true) s
  have lG := quote_len (q := 34) okG s
  have m1 := quote_mono (q := 34) (s := stP false) (t := stG) (fun r h => okG.nonneg r h) stG_ge s
  have m2 := quote_mono (q := 34) (s := stP true) (t := stP false) (fun r h => (okP false).nonneg r h) stP_le s
  obtain ⟨P, hP⟩ : ∃ L, L = quoteL 34 (stP false) (elemsOf s) := ⟨_, rfl⟩
  rw [← hP] at CP lP m1 m2
  obtain ⟨A, hA⟩ : ∃ L, L = quoteL 34 (stP true) (elemsOf s) := ⟨_, rfl⟩
  rw [← hA] at CA lA m2
  obtain ⟨G, hGL⟩ : ∃ L, L = quoteL 34 stG (elemsOf s) := ⟨_, rfl⟩
  rw [← hGL] at CG lG m1
  obtain ⟨n, hn⟩ : ∃ n, n = s.length := ⟨_, rfl⟩
  have eS : (str s).size = n := by rw [size_str, hn]
  rw [← hn] at ha lP lA lG
  obtain ⟨p, hp⟩ : ∃ n, n = P.length := ⟨_, rfl⟩
  obtain ⟨q, hq⟩ : ∃ n, n = A.length := ⟨_, rfl⟩
  obtain ⟨g, hg⟩ : ∃ n, n = G.length := ⟨_, rfl⟩
  have eP : (str P).size = p := by rw [size_str, hp]
  have eA : (str A).size = q := by rw [size_str, hq]
  have eG : (str G).size = g := by rw [size_str, hg]
  rw [← hp] at lP m1 m2
  rw [← hq] at lA m2
  rw [← hg] at lG m1
  have hall := Lib.hid (show ∀ t ∈ [P, A, G], 2 ≤ t.length ∧ t.length ≤ 4 * n + 2 by simp [← hp, ← hq, ← hg]; omega)
  clear hL hT hG hU hP hA hGL hn hp hq hg
  go_enter Tryd.func12, Tryd.ntmps12
  have tok1 : True := trivial
  go_wp2_with (first
    | (go_at_call 16; have _t := tok1; clear tok1; refine (CP.out _ (Below.refl _ _)).mono ?_; rintro e w1 ⟨rfl, hw1⟩; have tok2 : True := trivial)
    | (go_at_call 19; have _t := tok2; clear tok2; refine (CA.out _ hw1).mono ?_; rintro e w2 ⟨rfl, hw2⟩; have hb2 := hw1.trans (hw2.mono hw1.size); have tok3 : True := trivial)
    | (go_at_call 20; have _t := tok3; clear tok3; refine (CG.out _ hb2).mono ?_; rintro e w3 ⟨rfl, hw3⟩; have hb3 := hb2.trans (hw3.mono hb2.size)))
  go_loopw [13] (fun vk wr => ∃ k : Nat, vk = .int .i64 k ∧ k ≤ 3 ∧ Hid (Below (w3.heap.size + 1) (w3.alloc (.cells #[.string (str P), .string (str A), .string (str G)] 9)) wr)) (fun vk _ => 3 - (intOf vk).toNat)
  case atStart => exact ⟨0, rfl, by omega, Below.refl _ _⟩
  case round =>
    obtain ⟨k, rfl, hk, hB⟩ := hrel
    have hbr : Below w.heap.size w wr := (hb3.trans ((Below.refl _ _).alloc hb3.size _)).trans (hB.out.mono (Nat.le_trans hb3.size (Nat.le_succ _)))
    by_cases hlt : k < 3
    · obtain ⟨t, ht, hcell0⟩ := cells3 w3 9 P A G k hlt
      have hcell : wr.cell? ⟨w3.heap.size, k, none⟩ = some (.string (str t)) := by rw [hB.out.cell (p := ⟨w3.heap.size, k, none⟩) (by simp)]; exact hcell0
      obtain ⟨t1, t2⟩ := hall.out t ht
      obtain ⟨j, hj⟩ : ∃ n, n = t.length := ⟨_, rfl⟩
      have eT : (str t).size = j := by rw [size_str, hj]
      rw [← hj] at t1 t2
      clear ht hcell0 hj
      go_wp2_with fail
      all_goals first | (exfalso; omega) | skip
      go_roundw
      case rel => exact ⟨k + 1, by go_num, by omega, hB.out⟩
      case measure => simp [intOf]; omega
    · go_wp2_with (first
        | (go_at_call 20; refine (CG.out _ hbr).mono ?_; rintro e w4 ⟨rfl, hw4⟩; have hb4 := hbr.trans (hw4.mono hbr.size); have tok4 : True := trivial)
        | (go_at_call 16; have _t := tok4; clear tok4; refine (CP.out _ hb4).mono ?_; rintro e w5 ⟨rfl, hw5⟩; have hb5 := hb4.trans (hw5.mono hb4.size); have tok5 : True := trivial)
        | (go_at_call 16; have _t := tok5; clear tok5; refine (CP.out _ hb5).mono ?_; rintro e w6 ⟨rfl, hw6⟩; have hb6 := hb5.trans (hw6.mono hb5.size))
        | (go_at_call 19; refine (CA.out _ hb6).mono ?_; rintro e w7 ⟨rfl, hw7⟩; have hb7 := hb6.trans (hw7.mono hb6.size)))
      all_goals first | (exfalso; omega) | skip
      go_ret
      exact ⟨by simp; try omega, hb7⟩
end Go.Proofs.YtpboiodigfdajaaDoor.fnQuoteLength
