/-
  The walk of laws.FnOneLine: it returns true. Printed by wip/gen/qlaws.py.
-/
import Derived.Test.YtpboiodigfdajaaDoorQuotes
import Derived.Test.YtpboiodigfdajaaDoorPlainQLaws
import Derived.Test.YtpboiodigfdajaaDoorStrWords
import Derived.Test.YtpboiodigfdajaaDoorInner
import Derived.Outline
namespace Go.Proofs.YtpboiodigfdajaaDoor.fnOneLine
open Go.RowKit
set_option maxRecDepth 100000
set_option linter.unusedVariables false
set_option linter.unusedSimpArgs false
theorem cells3 (w : World) (T : TypeId) (a b c : List UInt8) (k : Nat) (hk : k < 3) : ∃ x, x ∈ [a, b, c] ∧ (w.alloc (.cells #[.string (str a), .string (str b), .string (str c)] T)).cell? ⟨w.heap.size, k, none⟩ = some (.string (str x)) := by
  refine ⟨[a, b, c][k]'hk, List.getElem_mem _, ?_⟩
  rw [World.cell?_alloc_new]
  have : k = 0 ∨ k = 1 ∨ k = 2 := by omega
  rcases this with rfl | rfl | rfl <;> rfl
theorem shape {st : Int → Bool} (hs : OkSt st) (s : List UInt8) : ∃ body, quoteL 34 st (elemsOf s) = 34 :: (body ++ [34]) ∧ lineB false body = true ∧ body.length ≤ 4 * s.length := by
  refine ⟨flatE 34 st (elemsOf s), rfl, flat_line hs _ (elems_val s) _, ?_⟩
  have := flat_len (q := 34) hs (elemsOf s) (elems_val s)
  rwa [elems_bytes] at this
set_option maxHeartbeats 8000000 in
theorem walk (w : World) (a : ByteArray) (ha : a.size ≤ 1048576) (hL : laidMetH Tryd.prog Rows.fnOneLineUptoRow.laid w) :
    Calls Tryd.prog 9 #[.string a] w fun e w' => e = .returned (.bool true) ∧ Below w.heap.size w w' := by
  have hT : PrintT w := printT_of hL (by kernel_rfl) (by simp [Rows.fnOneLineUptoRow, Rows.laid_strconv_isPrint16]) (by simp [Rows.fnOneLineUptoRow, Rows.laid_strconv_isNotPrint16]) (by simp [Rows.fnOneLineUptoRow, Rows.laid_strconv_isPrint32]) (by simp [Rows.fnOneLineUptoRow, Rows.laid_strconv_isNotPrint32])
  have hG : GraphicT w := graphicT_of hL (by kernel_rfl) (by simp [Rows.fnOneLineUptoRow, Rows.laid_strconv_isGraphic])
  have hU : Utf8T w := utf8T_of hL (by kernel_rfl) (by simp [Rows.fnOneLineUptoRow, Rows.laid_unicode_utf8_first]) (by simp [Rows.fnOneLineUptoRow, Rows.laid_unicode_utf8_acceptRanges]; kernel_rfl)
  obtain ⟨s, rfl⟩ : ∃ s, a = str s := ⟨a.data.toList, (str_toList a).symm⟩
  rw [size_str] at ha
  have CP := Lib.hid (show ∀ wx, Below w.heap.size w wx → Calls Tryd.prog 16 #[.string (str s)] wx fun e w' => e = .returned (.string (str (quoteL 34 (stP false) (elemsOf s)))) ∧ Below w.heap.size w w' from fun wx hb => (iQuote_any s wx (by omega) (hT.below hb) (hG.below hb) (hU.below hb)).mono fun e w' ⟨h1, h2⟩ => ⟨h1, hb.trans (h2.mono hb.size)⟩)
  have CA := Lib.hid (show ∀ wx, Below w.heap.size w wx → Calls Tryd.prog 19 #[.string (str s)] wx fun e w' => e = .returned (.string (str (quoteL 34 (stP true) (elemsOf s)))) ∧ Below w.heap.size w w' from fun wx hb => (iQuoteToASCII_any s wx (by omega) (hT.below hb) (hG.below hb) (hU.below hb)).mono fun e w' ⟨h1, h2⟩ => ⟨h1, hb.trans (h2.mono hb.size)⟩)
  have CG := Lib.hid (show ∀ wx, Below w.heap.size w wx → Calls Tryd.prog 20 #[.string (str s)] wx fun e w' => e = .returned (.string (str (quoteL 34 stG (elemsOf s)))) ∧ Below w.heap.size w w' from fun wx hb => (iQuoteToGraphic_any s wx (by omega) (hT.below hb) (hG.below hb) (hU.below hb)).mono fun e w' ⟨h1, h2⟩ => ⟨h1, hb.trans (h2.mono hb.size)⟩)
  have nP := shape (okP false) s
  have nA := shape (okP true) s
  have nG := shape okG s
  obtain ⟨P, hhP⟩ : ∃ L, L = quoteL 34 (stP false) (elemsOf s) := ⟨_, rfl⟩
  rw [← hhP] at CP nP
  obtain ⟨A, hhA⟩ : ∃ L, L = quoteL 34 (stP true) (elemsOf s) := ⟨_, rfl⟩
  rw [← hhA] at CA nA
  obtain ⟨G, hhG⟩ : ∃ L, L = quoteL 34 stG (elemsOf s) := ⟨_, rfl⟩
  rw [← hhG] at CG nG
  have hall := Lib.hid (show ∀ t ∈ [P, A, G], ∃ body, t = 34 :: (body ++ [34]) ∧ lineB false body = true ∧ body.length ≤ 4194304 from fun t ht => by
    simp only [List.mem_cons, List.not_mem_nil, or_false] at ht
    rcases ht with rfl | rfl | rfl
    · obtain ⟨b, h1, h2, h3⟩ := nP; exact ⟨b, h1, h2, by omega⟩
    · obtain ⟨b, h1, h2, h3⟩ := nA; exact ⟨b, h1, h2, by omega⟩
    · obtain ⟨b, h1, h2, h3⟩ := nG; exact ⟨b, h1, h2, by omega⟩)
  have h0 : Below w.heap.size w w := Below.refl _ _
  clear hL hT hG hU hhP hhA hhG nP nA nG
  go_enter Tryd.func9, Tryd.ntmps9
  go_wp2_with fail
  refine (CP.out _ h0).mono ?_
  rintro e w1 ⟨rfl, hb1⟩
  go_wp2_with fail
  refine (CA.out _ hb1).mono ?_
  rintro e w2 ⟨rfl, hb2⟩
  go_wp2_with fail
  refine (CG.out _ hb2).mono ?_
  rintro e w3 ⟨rfl, hb3⟩
  go_wp2_with fail
  go_loopw [15] (fun vk wr => ∃ k : Nat, vk = .int .i64 k ∧ k ≤ 3 ∧ Hid (Below (w3.heap.size + 1) (w3.alloc (.cells #[.string (str P), .string (str A), .string (str G)] 9)) wr)) (fun vk _ => 3 - (intOf vk).toNat)
  case atStart => exact ⟨0, rfl, by omega, Below.refl _ _⟩
  case round =>
    obtain ⟨k, rfl, hk, hB⟩ := hrel
    have hbr : Below w.heap.size w wr := (hb3.trans ((Below.refl _ _).alloc hb3.size _)).trans (hB.out.mono (Nat.le_trans hb3.size (Nat.le_succ _)))
    by_cases hlt : k < 3
    · obtain ⟨t, ht, hcell0⟩ := cells3 w3 9 P A G k hlt
      have hcell : wr.cell? ⟨w3.heap.size, k, none⟩ = some (.string (str t)) := by rw [hB.out.cell (p := ⟨w3.heap.size, k, none⟩) (by simp)]; exact hcell0
      obtain ⟨body, htb, hline, hbl⟩ := hall.out t ht
      obtain ⟨j, hj⟩ : ∃ n, n = t.length := ⟨_, rfl⟩
      obtain ⟨m, hm⟩ : ∃ n, n = body.length := ⟨_, rfl⟩
      have eT : (str t).size = j := by rw [size_str, hj]
      have eB : (str body).size = m := by rw [size_str, hm]
      have hjm : j = m + 2 := by rw [hj, htb, hm]; simp
      have i0 := idx_str0 (P := Tryd.prog) 9 Tryd.underlying9 (l := t) (c := 34) (by rw [htb]; rfl)
      have i1 := fun wx => idx_str (P := Tryd.prog) 9 Tryd.underlying9 .i64 (l := t) (i := m + 1) (c := 34) (by rw [htb, hm]; simp) wx
      rw [show ((34 : UInt8).toNat : Int) = 34 from rfl] at i0 i1
      rw [show ((m + 1 : Nat) : Int) = (j : Int) - 1 by omega] at i1
      have IN := inner_any t (by rw [← hj]; omega) (by rw [← hj]; omega) wr
      rw [show (t.drop 1).take (t.length - 2) = body by rw [← hj, hjm, htb, hm]; simp] at IN
      have IN := Lib.hid IN
      have HL := Lib.hid (lineB_at body false hline)
      have HM := Lib.hid hm
      rw [← hm] at hbl
      have j2 : 2 ≤ j := by omega
      have j3 : j ≤ 4194306 := by omega
      clear ht hcell0 htb hline hj hm hjm
      go_wp2_with fail
      all_goals first | (exfalso; omega) | skip
      refine IN.out.mono ?_
      rintro e w4 ⟨rfl, rfl⟩
      go_wp2_with fail
      go_loop [6] (fun vi => ∃ i : Nat, vi = .int .i64 i ∧ i ≤ m) (fun vi => m - (intOf vi).toNat)
      case atStart => exact ⟨0, rfl, by omega⟩
      case round =>
        obtain ⟨i, rfl, hi⟩ := hrel
        by_cases hil : i < m
        · obtain ⟨c, hc⟩ : ∃ c, body[i]? = some c := ⟨body[i]'(by rw [← HM.out]; exact hil), List.getElem?_eq_getElem (by rw [← HM.out]; exact hil)⟩
          obtain ⟨a1, a2, a3⟩ := HL.out i c hc
          have hidx := fun wx => idx_str (P := Tryd.prog) 9 Tryd.underlying9 .i64 hc wx
          obtain ⟨y, hy⟩ : ∃ y : Int, y = (c.toNat : Int) := ⟨_, rfl⟩
          rw [← hy] at hidx
          have y1 : 32 ≤ y := by omega
          have y2 : (y == 127) = false := by
            rw [beq_eq_false_iff_ne, hy]
            intro e
            apply a2
            rw [← UInt8.toNat_inj]
            show c.toNat = 127
            omega
          by_cases hq : c = 34
          · have q1 : (y == 34) = true := by rw [hy, hq]; rfl
            obtain ⟨hi0, hprev⟩ : 0 < i ∧ body[i - 1]? = some 92 := by
              rcases a3 hq with ⟨_, h⟩ | h
              · cases h
              · exact h
            have hidx2 := fun wx => idx_str (P := Tryd.prog) 9 Tryd.underlying9 .i64 hprev wx
            rw [show ((i - 1 : Nat) : Int) = (i : Int) - 1 by omega, show ((92 : UInt8).toNat : Int) = 92 from rfl] at hidx2
            have q2 : ((i : Int) == 0) = false := by simp; omega
            clear hc a2 a3 hy hprev hq
            go_wp2_with fail
            all_goals first | (exfalso; omega) | skip
            go_round
            case rel => exact ⟨i + 1, by go_num, by omega⟩
            case measure => simp [intOf]; omega
          · have q1 : (y == 34) = false := by
              rw [beq_eq_false_iff_ne, hy]
              intro e
              apply hq
              rw [← UInt8.toNat_inj]
              show c.toNat = 34
              omega
            clear hc a2 a3 hy hq
            go_wp2_with fail
            all_goals first | (exfalso; omega) | skip
            go_round
            case rel => exact ⟨i + 1, by go_num, by omega⟩
            case measure => simp [intOf]; omega
        · go_wp2_with fail
          all_goals first | (exfalso; omega) | skip
          go_roundw
          case rel => exact ⟨k + 1, by go_num, by omega, hB.out⟩
          case measure => simp [intOf]; omega
    · go_wp2_with fail
      go_ret
      exact ⟨rfl, hbr⟩
end Go.Proofs.YtpboiodigfdajaaDoor.fnOneLine
