/-
  The walk of laws.FnUnquotedRune: it returns true. Printed by wip/gen/unqlaws.py.
-/
import Derived.Test.YthbnglkpkgpojaaDoorQuotes
import Derived.Test.YthbnglkpkgpojaaDoorQuoteRunes
import Derived.Test.YthbnglkpkgpojaaDoorUnquote
import Derived.Outline
namespace Go.Proofs.YthbnglkpkgpojaaDoor.fnUnquotedRune
open Go.RowKit
set_option maxRecDepth 100000
set_option linter.unusedVariables false
set_option linter.unusedSimpArgs false
theorem cells3 (w : World) (T : TypeId) (a b c : List UInt8) (k : Nat) (hk : k < 3) : ∃ x, x ∈ [a, b, c] ∧ (w.alloc (.cells #[.string (str a), .string (str b), .string (str c)] T)).cell? ⟨w.heap.size, k, none⟩ = some (.string (str x)) := by
  refine ⟨[a, b, c][k]'hk, List.getElem_mem _, ?_⟩
  rw [World.cell?_alloc_new]
  have : k = 0 ∨ k = 1 ∨ k = 2 := by omega
  rcases this with rfl | rfl | rfl <;> rfl
theorem ends39 (st : Int → Bool) (x : Int) : (quoteL 39 st [x])[0]? = some 39 ∧ 3 ≤ (quoteL 39 st [x]).length ∧ (quoteL 39 st [x]).length ≤ 100 ∧ (quoteL 39 st [x])[(quoteL 39 st [x]).length - 1]? = some 39 := by
  have a := elemL_length 39 (st x) x
  refine ⟨rfl, by simp [quoteL]; omega, by simp [quoteL]; omega, ?_⟩
  rw [quoteL_eq, ← List.getLast?_eq_getElem?]
  rw [← List.cons_append, List.getLast?_concat]; rfl
set_option maxHeartbeats 8000000 in
theorem walk (w : World) (r : Int) (hr : (Lit.int .i32 r).wf = true) (hL : laidMetH Tryd.prog Rows.fnUnquotedRuneRow.laid w) :
    Calls Tryd.prog 6 #[.int .i32 r] w fun e w' => e = .returned (.bool true) ∧ Below w.heap.size w w' := by
  have hT : PrintT w := printT_of hL (by kernel_rfl) (by simp [Rows.fnUnquotedRuneRow, Rows.laid_strconv_isPrint16]) (by simp [Rows.fnUnquotedRuneRow, Rows.laid_strconv_isNotPrint16]) (by simp [Rows.fnUnquotedRuneRow, Rows.laid_strconv_isPrint32]) (by simp [Rows.fnUnquotedRuneRow, Rows.laid_strconv_isNotPrint32])
  have hG : GraphicT w := graphicT_of hL (by kernel_rfl) (by simp [Rows.fnUnquotedRuneRow, Rows.laid_strconv_isGraphic])
  have hU : Utf8T w := utf8T_of hL (by kernel_rfl) (by simp [Rows.fnUnquotedRuneRow, Rows.laid_unicode_utf8_first]) (by simp [Rows.fnUnquotedRuneRow, Rows.laid_unicode_utf8_acceptRanges]; kernel_rfl)
  have h0 : Below w.heap.size w w := Below.refl _ _
  obtain ⟨x, hx⟩ : ∃ x, x = fixR r := ⟨_, rfl⟩
  have hcp : isCP x = true := by rw [hx]; exact fixR_cp r
  have hxb := cp_bounds hcp
  have C1 := Lib.hid (one_any r w)
  rw [← hx] at C1
  have EN := Lib.hid (show ∀ wx, Below w.heap.size w wx → Calls Tryd.prog 13 #[.int .i32 x] wx fun e w' => e = .returned (.string (str (encL x))) ∧ Below w.heap.size w w' from fun wx hb => (encode_any x wx hxb.1 hxb.2.1).mono fun e w' h => ⟨h.1, hb.trans (h.2.mono hb.size)⟩)
  have CP := Lib.hid (show ∀ wx, Below w.heap.size w wx → Calls Tryd.prog 19 #[.int .i32 r] wx fun e w' => e = .returned (.string (str (quoteL 39 (stP false) [fixR r]))) ∧ Below w.heap.size w w' from fun wx hb => (iQuoteRune_any r wx (hT.below hb) (hG.below hb)).mono fun e w' h => ⟨h.1, hb.trans (h.2.mono hb.size)⟩)
  rw [← hx] at CP
  have UP := Lib.hid (fun wx (hb : Below w.heap.size w wx) => iUnquote_rune (okP false) x hcp wx (hU.below hb))
  have eP := ends39 (stP false) x
  have CA := Lib.hid (show ∀ wx, Below w.heap.size w wx → Calls Tryd.prog 17 #[.int .i32 r] wx fun e w' => e = .returned (.string (str (quoteL 39 (stP true) [fixR r]))) ∧ Below w.heap.size w w' from fun wx hb => (iQuoteRuneToASCII_any r wx (hT.below hb) (hG.below hb)).mono fun e w' h => ⟨h.1, hb.trans (h.2.mono hb.size)⟩)
  rw [← hx] at CA
  have UA := Lib.hid (fun wx (hb : Below w.heap.size w wx) => iUnquote_rune (okP true) x hcp wx (hU.below hb))
  have eA := ends39 (stP true) x
  have CG := Lib.hid (show ∀ wx, Below w.heap.size w wx → Calls Tryd.prog 22 #[.int .i32 r] wx fun e w' => e = .returned (.string (str (quoteL 39 stG [fixR r]))) ∧ Below w.heap.size w w' from fun wx hb => (iQuoteRuneToGraphic_any r wx (hT.below hb) (hG.below hb)).mono fun e w' h => ⟨h.1, hb.trans (h.2.mono hb.size)⟩)
  rw [← hx] at CG
  have UG := Lib.hid (fun wx (hb : Below w.heap.size w wx) => iUnquote_rune okG x hcp wx (hU.below hb))
  have eG := ends39 stG x
  obtain ⟨LP, hPL⟩ : ∃ L, L = quoteL 39 (stP false) [x] := ⟨_, rfl⟩
  rw [← hPL] at CP UP eP
  obtain ⟨LA, hAL⟩ : ∃ L, L = quoteL 39 (stP true) [x] := ⟨_, rfl⟩
  rw [← hAL] at CA UA eA
  obtain ⟨LG, hGL⟩ : ∃ L, L = quoteL 39 stG [x] := ⟨_, rfl⟩
  rw [← hGL] at CG UG eG
  obtain ⟨E, hE⟩ : ∃ E, E = encL x := ⟨_, rfl⟩
  rw [← hE] at EN UP UA UG
  have hall := Lib.hid (show ∀ t ∈ [LP, LA, LG], (t[0]? = some 39 ∧ 3 ≤ t.length ∧ t.length ≤ 100 ∧ t[t.length - 1]? = some 39) ∧ ∀ wx, Below w.heap.size w wx → Calls Tryd.prog 20 #[.string (str t)] wx fun e w' => e = .returned (.tuple #[.string (str E), .bool true]) ∧ Below wx.heap.size wx w' by
    intro t ht
    simp only [List.mem_cons, List.not_mem_nil, or_false] at ht
    rcases ht with rfl | rfl | rfl
    · exact ⟨eP, UP.out⟩
    · exact ⟨eA, UA.out⟩
    · exact ⟨eG, UG.out⟩)
  clear hL hT hG hU hr hx hcp hxb hPL hAL hGL eP eA eG UP UA UG hE
  go_enter Tryd.func6, Tryd.ntmps6
  go_wp2_with fail
  refine C1.out.mono ?_
  rintro e w0 ⟨v1, rfl, ho⟩
  obtain ⟨A1, c1, hv1, _, _, hR⟩ := ho.form
  have hv1' : v1 = .slice A1 1 c1 := hv1
  rw [hv1']
  have hb0 := ho.isBelow
  obtain ⟨ad, u, hA', hbk, hu, hcell⟩ := hR.at_ (k := 0) (by simp [icells])
  have hu' : u = .int .i32 x := by simp [icells] at hu; exact hu.symm
  subst hu' hA'
  have hcell2 : w0.cell? ad = some (.int .i32 x) := by simpa [Addr.add] using hcell
  clear hv1 hv1' ho hR hu
  go_wp2_with fail
  all_goals first | (exfalso; omega) | skip
  refine (EN.out _ hb0).mono ?_
  rintro e w9 ⟨rfl, hb9⟩
  go_wp2_with fail
  all_goals first | (exfalso; omega) | skip
  refine (CP.out _ hb9).mono ?_
  rintro e w1 ⟨rfl, hb1⟩
  go_wp2_with fail
  all_goals first | (exfalso; omega) | skip
  refine (CA.out _ hb1).mono ?_
  rintro e w2 ⟨rfl, hb2⟩
  go_wp2_with fail
  all_goals first | (exfalso; omega) | skip
  refine (CG.out _ hb2).mono ?_
  rintro e w3 ⟨rfl, hb3⟩
  go_wp2_with fail
  go_loopw [21] (fun vk wr => ∃ k : Nat, vk = .int .i64 k ∧ k ≤ 3 ∧ Hid (Below (w3.heap.size + 1) (w3.alloc (.cells #[.string (str LP), .string (str LA), .string (str LG)] 9)) wr)) (fun vk _ => 3 - (intOf vk).toNat)
  case atStart => exact ⟨0, rfl, by omega, Below.refl _ _⟩
  case round =>
    obtain ⟨k, rfl, hk, hB⟩ := hrel
    have hbr : Below w.heap.size w wr := (hb3.trans ((Below.refl _ _).alloc hb3.size _)).trans (hB.out.mono (Nat.le_trans hb3.size (Nat.le_succ _)))
    by_cases hlt : k < 3
    · obtain ⟨t, ht, hcell0⟩ := cells3 w3 9 LP LA LG k hlt
      have hcl : wr.cell? ⟨w3.heap.size, k, none⟩ = some (.string (str t)) := by rw [hB.out.cell (p := ⟨w3.heap.size, k, none⟩) (by simp)]; exact hcell0
      obtain ⟨⟨t0, t1, t2, t4⟩, t3⟩ := hall.out t ht
      have CU := Lib.hid (t3 wr hbr)
      have i0 := idx_str0 (P := Tryd.prog) 9 Tryd.underlying9 t0
      rw [show (((39 : UInt8).toNat : Nat) : Int) = 39 from rfl] at i0
      have i1 := fun wx => idx_str (P := Tryd.prog) 9 Tryd.underlying9 .i64 t4 wx
      rw [show (((39 : UInt8).toNat : Nat) : Int) = 39 from rfl] at i1
      obtain ⟨j, hj⟩ : ∃ n, n = t.length := ⟨_, rfl⟩
      have eT : (str t).size = j := by rw [size_str, hj]
      rw [← hj] at t1 t2 i1
      rw [show ((j - 1 : Nat) : Int) = (j : Int) - 1 by omega] at i1
      clear ht hcell0 hj t3 t0 t4
      go_wp2_with (go_at_call 20; refine CU.out.mono ?_; rintro e w4 ⟨rfl, hw4⟩)
      all_goals first | (exfalso; omega) | skip
      go_roundw
      case rel => exact ⟨k + 1, by go_num, by omega, hB.out.trans (hw4.mono (by have := hB.out.size; simpa using this))⟩
      case measure => simp [intOf]; omega
    · go_wp2_with fail
      all_goals first | (exfalso; omega) | skip
      go_ret
      exact ⟨rfl, hbr⟩
end Go.Proofs.YthbnglkpkgpojaaDoor.fnUnquotedRune
