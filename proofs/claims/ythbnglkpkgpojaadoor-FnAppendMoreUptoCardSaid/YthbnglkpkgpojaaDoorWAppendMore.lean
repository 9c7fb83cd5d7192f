/-
  The walk of laws.FnAppendMore: it returns true. Printed by wip/gen/appmore.py.
-/
import Derived.Test.YthbnglkpkgpojaaDoorAppendQuote
import Derived.Test.YthbnglkpkgpojaaDoorApp
import Derived.Test.YthbnglkpkgpojaaDoorBoolText
import Derived.Test.YthbnglkpkgpojaaDoorNumRange
import Derived.Test.YthbnglkpkgpojaaDoorQuotes
import Derived.Test.YthbnglkpkgpojaaDoorPlainQLaws
import Derived.Deep.RegionHeld3
import Derived.Outline
namespace Go.Proofs.YthbnglkpkgpojaaDoor.fnAppendMore
open Go.RowKit
set_option maxRecDepth 100000
set_option linter.unusedVariables false
set_option linter.unusedSimpArgs false
theorem formatBool_any (b : Bool) (w : World) : Calls Tryd.prog 31 #[.bool b] w fun e w' => e = .returned (.string (str (boolText b))) ∧ w = w' := by
  cases b
  all_goals
    go_enter Tryd.func31, Tryd.ntmps31
    go_wp2
    go_ret
    exact ⟨rfl, rfl⟩
/-- what a function that appends hands back: a slice that reads as these bytes -/
def Gives (w : World) (L : List UInt8) (e : Ending) (w' : World) : Prop := ∃ A c, e = .returned (.slice A L.length c) ∧ Reads w' w'.heap.size 1 A L.length (bcells L) ∧ Below w.heap.size w w'
theorem gives_own {w wx w' : World} {v : Value} {L : List UInt8} (hb : Below w.heap.size w wx) (h : Own 5 wx.heap.size v (bcells L) wx w') : Gives w L (.returned v) w' := by
  obtain ⟨A, c, rfl, _, _, hr⟩ := h.form
  rw [bcells_length] at hr ⊢
  exact ⟨A, c, rfl, hr, hb.trans (h.isBelow.mono hb.size)⟩
theorem gives_buf {w wx w' : World} {v : Value} {L : List UInt8} (hb : Below w.heap.size w wx) (h : Buf 5 wx.heap.size v L wx w') : Gives w L (.returned v) w' := by
  obtain ⟨A, c, rfl, _, _, hr⟩ := h.form
  exact ⟨A, c, rfl, hr, hb.trans (h.isBelow.mono hb.size)⟩
set_option maxHeartbeats 40000000 in
theorem walk (w : World) (A : Option Addr) (c : Nat) (l : List UInt8) (hr : Reads w w.heap.size 1 A l.length (bcells l)) (hl : l.length ≤ 1048576) (i : Int) (hi : (Lit.int .i64 i).wf = true) (u : Int) (hu : (Lit.int .u64 u).wf = true) (bb : Bool) (base : Int) (hbase : (Lit.int .i64 base).wf = true) (hL : laidMetH Tryd.prog Rows.fnAppendMoreUptoRow.laid w) :
    Calls Tryd.prog 9 #[.slice A l.length c, .int .i64 i, .int .u64 u, .bool bb, .int .i64 base] w fun e w' => e = .returned (.bool true) ∧ Below w.heap.size w w' := by
  have hN : NumT w := ⟨pow10T_of hL (by kernel_rfl) (by simp [Rows.fnAppendMoreUptoRow]), bruT_of hL (by kernel_rfl) (by simp [Rows.fnAppendMoreUptoRow])⟩
  have hT : PrintT w := printT_of hL (by kernel_rfl) (by simp [Rows.fnAppendMoreUptoRow, Rows.laid_strconv_isPrint16]) (by simp [Rows.fnAppendMoreUptoRow, Rows.laid_strconv_isNotPrint16]) (by simp [Rows.fnAppendMoreUptoRow, Rows.laid_strconv_isPrint32]) (by simp [Rows.fnAppendMoreUptoRow, Rows.laid_strconv_isNotPrint32])
  have hG : GraphicT w := graphicT_of hL (by kernel_rfl) (by simp [Rows.fnAppendMoreUptoRow, Rows.laid_strconv_isGraphic])
  have hU : Utf8T w := utf8T_of hL (by kernel_rfl) (by simp [Rows.fnAppendMoreUptoRow, Rows.laid_unicode_utf8_first]) (by simp [Rows.fnAppendMoreUptoRow, Rows.laid_unicode_utf8_acceptRanges]; kernel_rfl)
  have h0 : Below w.heap.size w w := Below.refl _ _
  have hi := wf_i64 hi
  have hu := wf_u64 hu
  have hbase := wf_i64 hbase
  rcases base_cases base with h | h | ⟨b, rfl, h2, h36⟩
  · clear hL hN hT hG hU
    go_enter Tryd.func9, Tryd.ntmps9
    go_wp2_with fail
    all_goals first | (exfalso; omega) | skip
    go_ret
    exact ⟨rfl, h0⟩
  · clear hL hN hT hG hU
    go_enter Tryd.func9, Tryd.ntmps9
    go_wp2_with fail
    all_goals first | (exfalso; omega) | skip
    go_ret
    exact ⟨rfl, h0⟩
  have eU : ((u.toNat : Nat) : Int) = u := by omega
  have lI := fmtI_length (b := b) (i := i) h2 hi.1 hi.2
  have lU := digB_length_64 (b := b) (u := u.toNat) h2 (by omega)
  have lB := boolText_le bb
  have lQ := quote_len (q := 34) (okP false) l
  have pU : 1 ≤ (digB b u.toNat).length := List.length_pos_iff.2 digB_ne
  obtain ⟨L1, e1⟩ : ∃ L, L = l ++ fmtI b i := ⟨_, rfl⟩
  obtain ⟨L2, e2⟩ : ∃ L, L = L1 ++ digB b u.toNat := ⟨_, rfl⟩
  obtain ⟨L3, e3⟩ : ∃ L, L = L2 ++ boolText bb := ⟨_, rfl⟩
  obtain ⟨L4, e4⟩ : ∃ L, L = L3 ++ quoteL 34 (stP false) (elemsOf l) := ⟨_, rfl⟩
  have k1 : L1.length = l.length + (fmtI b i).length := by rw [e1]; simp
  have k2 : L2.length = L1.length + (digB b u.toNat).length := by rw [e2]; simp
  have k3 : L3.length = L2.length + (boolText bb).length := by rw [e3]; simp
  have k4 : L4.length = L3.length + (quoteL 34 (stP false) (elemsOf l)).length := by rw [e4]; simp
  have C1 := Lib.hid (show Calls Tryd.prog 26 #[.slice A l.length c, .int .i64 i, .int .i64 b] w (Gives w L1) from (AppendInt_any i b A c l w h2 h36 hi.1 hi.2 hN hr (by omega)).mono fun e w' ⟨v', h1, h2⟩ => by rw [h1]; rw [← e1] at h2; exact gives_own h0 h2)
  have C2 := Lib.hid (show ∀ wx A' c', Below w.heap.size w wx → Reads wx wx.heap.size 1 A' L1.length (bcells L1) → Calls Tryd.prog 27 #[.slice A' L1.length c', .int .u64 u, .int .i64 b] wx (Gives w L2) from fun wx A' c' hb hR => by
    have h := AppendUint_any u.toNat b A' c' L1 wx h2 h36 (by omega) (hN.below hb) hR (by omega)
    rw [eU, ← e2] at h
    exact h.mono fun e w' ⟨v', h1, h2⟩ => by rw [h1]; exact gives_own hb h2)
  have C3 := Lib.hid (show ∀ wx A' c', Below w.heap.size w wx → Reads wx wx.heap.size 1 A' L2.length (bcells L2) → Calls Tryd.prog 28 #[.slice A' L2.length c', .bool bb] wx (Gives w L3) from fun wx A' c' hb hR => by
    have h := xappendBool_any A' c' L2 bb wx hR (by omega)
    rw [← e3] at h
    exact h.mono fun e w' ⟨v', h1, h2⟩ => by rw [h1]; exact gives_buf hb h2)
  have C4 := Lib.hid (show ∀ wx A' c', Below w.heap.size w wx → Reads wx wx.heap.size 1 A' L3.length (bcells L3) → Calls Tryd.prog 29 #[.slice A' L3.length c', .string (str l)] wx (Gives w L4) from fun wx A' c' hb hR => by
    have h := iAppendQuote_any A' c' L3 l wx hR (by omega) (hT.below hb) (hG.below hb) (hU.below hb)
    rw [← e4] at h
    exact h.mono fun e w' ⟨v', h1, h2⟩ => by rw [h1]; exact gives_buf hb h2)
  have FI := Lib.hid (show ∀ W, Below w.heap.size w W → ∀ wx, Below W.heap.size W wx → Calls Tryd.prog 23 #[.int .i64 i, .int .i64 b] wx fun e w' => e = .returned (.string (str (fmtI b i))) ∧ Below W.heap.size W w' from fun W hW wx hb => (FormatInt_any i b wx h2 h36 hi.1 hi.2 (hN.below (hW.trans (hb.mono hW.size)))).mono fun e w' h => ⟨h.1, hb.trans (h.2.mono hb.size)⟩)
  have FU := Lib.hid (show ∀ W, Below w.heap.size w W → ∀ wx, Below W.heap.size W wx → Calls Tryd.prog 30 #[.int .u64 u, .int .i64 b] wx fun e w' => e = .returned (.string (str (digB b u.toNat))) ∧ Below W.heap.size W w' from fun W hW wx hb => (by have h := FormatUint_any u.toNat b wx h2 h36 (by omega) (hN.below (hW.trans (hb.mono hW.size))); rw [eU] at h; exact h.mono fun e w' h => ⟨h.1, hb.trans (h.2.mono hb.size)⟩))
  have FB := Lib.hid (show ∀ W, Below w.heap.size w W → ∀ wx, Below W.heap.size W wx → Calls Tryd.prog 31 #[.bool bb] wx fun e w' => e = .returned (.string (str (boolText bb))) ∧ Below W.heap.size W w' from fun W hW wx hb => (formatBool_any bb wx).mono fun e w' h => ⟨h.1, by rw [← h.2]; exact hb⟩)
  have FQ := Lib.hid (show ∀ W, Below w.heap.size w W → ∀ wx, Below W.heap.size W wx → Calls Tryd.prog 14 #[.string (str l)] wx fun e w' => e = .returned (.string (str (quoteL 34 (stP false) (elemsOf l)))) ∧ Below W.heap.size W w' from fun W hW wx hb => (iQuote_any l wx (by omega) (hT.below (hW.trans (hb.mono hW.size))) (hG.below (hW.trans (hb.mono hW.size))) (hU.below (hW.trans (hb.mono hW.size)))).mono fun e w' h => ⟨h.1, hb.trans (h.2.mono hb.size)⟩)
  have hcv := Lib.hid (show ∀ wx : World, Below w.heap.size w wx → (convert 39 9 (.slice A l.length c)).run Tryd.prog wx = .ok (.string (str l)) wx from
    fun wx hb => run_convert_reads (P := Tryd.prog) wx 39 5 9 Tryd.underlying39 Tryd.underlying5 Tryd.underlying9 c (hr.below hb))
  obtain ⟨TI, hTI⟩ : ∃ X, X = fmtI b i := ⟨_, rfl⟩
  rw [← hTI] at FI e1 lI k1
  obtain ⟨TU, hTU⟩ : ∃ X, X = digB b u.toNat := ⟨_, rfl⟩
  rw [← hTU] at FU e2 lU k2 pU
  obtain ⟨TB, hTB⟩ : ∃ X, X = boolText bb := ⟨_, rfl⟩
  rw [← hTB] at FB e3 lB k3
  obtain ⟨TQ, hTQ⟩ : ∃ X, X = quoteL 34 (stP false) (elemsOf l) := ⟨_, rfl⟩
  rw [← hTQ] at FQ e4 lQ k4
  have s1 : ¬ 9223372036854775807 < (str l).size + (str TI).size := by rw [size_str, size_str]; omega
  have s2 : ¬ 9223372036854775807 < (str L1).size + (str TU).size := by rw [size_str, size_str]; omega
  have s3 : ¬ 9223372036854775807 < (str L2).size + (str TB).size := by rw [size_str, size_str]; omega
  have s4 : ¬ 9223372036854775807 < (str L3).size + (str TQ).size := by rw [size_str, size_str]; omega
  have j1 : str l ++ str TI = str L1 := by rw [str_append, e1]
  have j2 : str L1 ++ str TU = str L2 := by rw [str_append, e2]
  have j3 : str L2 ++ str TB = str L3 := by rw [str_append, e3]
  have j4 : str L3 ++ str TQ = str L4 := by rw [str_append, e4]
  have hlt : l.length < L2.length := by omega
  have hL2 : L2.length ≤ 2000000 := by omega
  unfold Gives at C1 C2 C3 C4
  have CV4 := Lib.hid (show ∀ (W : World) A' c', Reads W W.heap.size 1 A' L4.length (bcells L4) → ∀ wx, Below W.heap.size W wx → (convert 39 9 (.slice A' L4.length c')).run Tryd.prog wx = .ok (.string (str L4)) wx from
    fun W A' c' hR wx hb => run_convert_reads (P := Tryd.prog) wx 39 5 9 Tryd.underlying39 Tryd.underlying5 Tryd.underlying9 c' (hR.below hb))
  obtain ⟨n, hn⟩ : ∃ n, n = l.length := ⟨_, rfl⟩
  rw [← hn] at C1 hcv hlt ⊢
  obtain ⟨n1, hn1⟩ : ∃ n, n = L1.length := ⟨_, rfl⟩
  rw [← hn1] at C1 C2
  obtain ⟨n2, hn2⟩ : ∃ n, n = L2.length := ⟨_, rfl⟩
  rw [← hn2] at C2 C3 hlt hL2
  obtain ⟨n3, hn3⟩ : ∃ n, n = L3.length := ⟨_, rfl⟩
  rw [← hn3] at C3 C4
  obtain ⟨n4, hn4⟩ : ∃ n, n = L4.length := ⟨_, rfl⟩
  rw [← hn4] at C4 CV4
  have hltI : decide ((n : Int) < (n2 : Int)) = true := by simp; omega
  have g1 : decide ((b : Int) < 2) = false := by simp; omega
  have g2 : decide (36 < (b : Int)) = false := by simp; omega
  clear hL hN hT hG hU hr hl hi hu hbase eU lI lU lB lQ pU k1 k2 k3 k4 e1 e2 e3 e4 hTI hTU hTB hTQ hn hn1 hn2 hn3 hn4
  go_enter Tryd.func9, Tryd.ntmps9
  go_wp2_with fail
  all_goals first | (exfalso; omega) | skip
  refine C1.out.mono ?_
  rintro e w1 ⟨A1, c1, rfl, hR1, hb1⟩
  go_wp2_with fail
  refine (C2.out _ _ _ hb1 hR1).mono ?_
  rintro e w2 ⟨A2, c2, rfl, hR2, hb2⟩
  go_wp2_with fail
  refine (C3.out _ _ _ hb2 hR2).mono ?_
  rintro e w3 ⟨A3, c3, rfl, hR3, hb3⟩
  have hk3 := hcv.out w3 hb3
  go_wp2_with fail
  refine (C4.out _ _ _ hb3 hR3).mono ?_
  rintro e w4 ⟨A4, c4, rfl, hR4, hb4⟩
  have hSo := Lib.hid (show ∀ wx, Below w4.heap.size w4 wx → (convert 39 9 (.slice A n c)).run Tryd.prog wx = .ok (.string (str l)) wx ∧ (convert 39 9 (.slice A4 n4 c4)).run Tryd.prog wx = .ok (.string (str L4)) wx from fun wx hb => ⟨hcv.out wx (hb4.trans (hb.mono hb4.size)), CV4.out w4 A4 c4 hR4 wx hb⟩)
  have GI := Lib.hid (FI.out w4 hb4)
  have GU := Lib.hid (FU.out w4 hb4)
  have GB := Lib.hid (FB.out w4 hb4)
  have GQ := Lib.hid (FQ.out w4 hb4)
  have HB4 := Lib.hid hb4
  have hS0 := hSo.out w4.drew ((Below.refl _ _).drew)
  have hd0 : Below w4.heap.size w4 w4.drew := (Below.refl _ _).drew
  clear hR1 hR2 hR3 hR4 hk3 hcv CV4 FI FU FB FQ C1 C2 C3 C4 hb1 hb2 hb3 hb4
  go_wp2_with fail
  refine wp_region_held_drew (S := fun w' => (convert 39 9 (.slice A n c)).run Tryd.prog w' = .ok (.string (str l)) w' ∧ (convert 39 9 (.slice A4 n4 c4)).run Tryd.prog w' = .ok (.string (str L4)) w') (by kernel_rfl) hS0 (fun hHeld => ?_)
  refine wpAnyH_take (i := 0) (oi := ⟨some 36, _, _, _, _, _⟩) (v := ?_) rfl (by kernel_rfl) (by kernel_rfl) (by kernel_rfl) (fun _ _ _ h => h) (Or.inl ⟨by kernel_rfl, ?_⟩) (by assumption) ?_
  case refine_2 => (intro w hSw; (try dsimp only at hSw); obtain ⟨q0, q1⟩ := hSw; go_simp; (try with_reducible rfl))
  try simp only [Act.put, List.setIfInBounds_toArray, List.set_cons_zero, List.set_cons_succ]
  refine wpAnyH_take (i := 1) (oi := ⟨some 37, _, _, _, _, _⟩) (v := ?_) rfl (by kernel_rfl) (by kernel_rfl) (by kernel_rfl) (fun _ _ _ h => h) (Or.inl ⟨by kernel_rfl, ?_⟩) (by assumption) ?_
  case refine_2 => (intro w hSw; (try dsimp only at hSw); obtain ⟨q0, q1⟩ := hSw; go_simp; (try with_reducible rfl))
  try simp only [Act.put, List.setIfInBounds_toArray, List.set_cons_zero, List.set_cons_succ]
  refine wpAnyH_take (i := 2) (oi := ⟨some 38, _, _, _, _, _⟩) (v := ?_) rfl (by kernel_rfl) (by kernel_rfl) (by kernel_rfl) (fun _ _ _ h => h) (Or.inl ⟨by kernel_rfl, ?_⟩) (by assumption) ?_
  case refine_2 => (intro w hSw; (try dsimp only at hSw); obtain ⟨q0, q1⟩ := hSw; go_simp; (try with_reducible rfl))
  try simp only [Act.put, List.setIfInBounds_toArray, List.set_cons_zero, List.set_cons_succ]
  refine wpAnyH_take (i := 3) (oi := ⟨some 39, _, _, _, _, _⟩) (v := ?_) rfl (by kernel_rfl) (by kernel_rfl) (by kernel_rfl) (fun _ _ _ h => h) (Or.inl ⟨by kernel_rfl, ?_⟩) (by assumption) ?_
  case refine_2 => (intro w hSw; (try dsimp only at hSw); obtain ⟨q0, q1⟩ := hSw; go_simp; (try with_reducible rfl))
  try simp only [Act.put, List.setIfInBounds_toArray, List.set_cons_zero, List.set_cons_succ]
  refine wpAnyH_take (i := 4) (oi := ⟨some 40, _, _, _, _, _⟩) (v := ?_) rfl (by kernel_rfl) (by kernel_rfl) (by kernel_rfl) (fun _ _ _ h => h) (Or.inl ⟨by kernel_rfl, ?_⟩) (by assumption) ?_
  case refine_2 => (intro w hSw; (try dsimp only at hSw); obtain ⟨q0, q1⟩ := hSw; go_simp; (try with_reducible rfl))
  try simp only [Act.put, List.setIfInBounds_toArray, List.set_cons_zero, List.set_cons_succ]
  refine wpAnyH_take (i := 5) (oi := ⟨some 41, _, _, _, _, _⟩) (v := ?_) rfl (by kernel_rfl) (by kernel_rfl) (by kernel_rfl) (fun _ _ _ h => h) (Or.inl ⟨by kernel_rfl, ?_⟩) (by assumption) ?_
  case refine_2 => (intro w hSw; (try dsimp only at hSw); obtain ⟨q0, q1⟩ := hSw; go_simp; (try with_reducible rfl))
  try simp only [Act.put, List.setIfInBounds_toArray, List.set_cons_zero, List.set_cons_succ]
  refine wpAnyH_take (i := 8) (oi := ⟨some 44, _, _, _, _, _⟩) (v := ?_) rfl (by kernel_rfl) (by kernel_rfl) (by kernel_rfl) (fun _ _ _ h => h) (Or.inl ⟨by kernel_rfl, ?_⟩) (by assumption) ?_
  case refine_2 => (intro w hSw; (try dsimp only at hSw); obtain ⟨q0, q1⟩ := hSw; go_simp; (try with_reducible rfl))
  try simp only [Act.put, List.setIfInBounds_toArray, List.set_cons_zero, List.set_cons_succ]
  refine wpAnyH_take (i := 9) (oi := ⟨some 45, _, _, _, _, _⟩) (v := ?_) rfl (by kernel_rfl) (by kernel_rfl) (by kernel_rfl) (fun _ _ _ h => h) (Or.inl ⟨by kernel_rfl, ?_⟩) (by assumption) ?_
  case refine_2 => (intro w hSw; (try dsimp only at hSw); obtain ⟨q0, q1⟩ := hSw; go_simp; (try with_reducible rfl))
  try simp only [Act.put, List.setIfInBounds_toArray, List.set_cons_zero, List.set_cons_succ]
  refine wpAnyH_take (i := 12) (oi := ⟨some 48, _, _, _, _, _⟩) (v := ?_) rfl (by kernel_rfl) (by kernel_rfl) (by kernel_rfl) (fun _ _ _ h => h) (Or.inl ⟨by kernel_rfl, ?_⟩) (by assumption) ?_
  case refine_2 => (intro w hSw; (try dsimp only at hSw); obtain ⟨q0, q1⟩ := hSw; go_simp; (try with_reducible rfl))
  try simp only [Act.put, List.setIfInBounds_toArray, List.set_cons_zero, List.set_cons_succ]
  refine wpAnyH_take (i := 15) (oi := ⟨some 51, _, _, _, _, _⟩) (v := ?_) rfl (by kernel_rfl) (by kernel_rfl) (by kernel_rfl) (fun _ _ _ h => h) (Or.inl ⟨by kernel_rfl, ?_⟩) (by assumption) ?_
  case refine_2 => (intro w hSw; (try dsimp only at hSw); obtain ⟨q0, q1⟩ := hSw; go_simp; (try with_reducible rfl))
  try simp only [Act.put, List.setIfInBounds_toArray, List.set_cons_zero, List.set_cons_succ]
  refine wpAnyH_take (i := 16) (oi := ⟨some 52, _, _, _, _, _⟩) (v := ?_) rfl (by kernel_rfl) (by kernel_rfl) (by kernel_rfl) (fun _ _ _ h => h) (Or.inl ⟨by kernel_rfl, ?_⟩) (by assumption) ?_
  case refine_2 => (intro w hSw; (try dsimp only at hSw); obtain ⟨q0, q1⟩ := hSw; go_simp; (try with_reducible rfl))
  try simp only [Act.put, List.setIfInBounds_toArray, List.set_cons_zero, List.set_cons_succ]
  refine wpAnyH_ready (rs := [6]) (by kernel_rfl) (by simp) ?_
  refine AllReadyH.cons rfl (fun K hK => ?_) AllReadyH.nil
  go_simp
  (go_at_call 23; refine (GI.out _ hd0).mono ?_; rintro e x1 ⟨rfl, hd1⟩)
  go_wp2_with fail
  refine hK.out _ _ ?_ (fun hHeld => ?_)
  case refine_1 => (exact hSo.out _ (by assumption))
  clear hK K
  try simp only [Act.put, List.setIfInBounds_toArray, List.set_cons_zero, List.set_cons_succ]
  refine wpAnyH_take (i := 7) (oi := ⟨some 43, _, _, _, _, _⟩) (v := ?_) rfl (by kernel_rfl) (by kernel_rfl) (by kernel_rfl) (fun _ _ _ h => h) (Or.inl ⟨by kernel_rfl, ?_⟩) (by assumption) ?_
  case refine_2 => (intro w hSw; (try dsimp only at hSw); obtain ⟨q0, q1⟩ := hSw; go_simp; (try with_reducible rfl))
  try simp only [Act.put, List.setIfInBounds_toArray, List.set_cons_zero, List.set_cons_succ]
  refine wpAnyH_ready (rs := [10]) (by kernel_rfl) (by simp) ?_
  refine AllReadyH.cons rfl (fun K hK => ?_) AllReadyH.nil
  go_simp
  (go_at_call 30; refine (GU.out _ hd1).mono ?_; rintro e x2 ⟨rfl, hd2⟩)
  go_wp2_with fail
  refine hK.out _ _ ?_ (fun hHeld => ?_)
  case refine_1 => (exact hSo.out _ (by assumption))
  clear hK K
  try simp only [Act.put, List.setIfInBounds_toArray, List.set_cons_zero, List.set_cons_succ]
  refine wpAnyH_take (i := 11) (oi := ⟨some 47, _, _, _, _, _⟩) (v := ?_) rfl (by kernel_rfl) (by kernel_rfl) (by kernel_rfl) (fun _ _ _ h => h) (Or.inl ⟨by kernel_rfl, ?_⟩) (by assumption) ?_
  case refine_2 => (intro w hSw; (try dsimp only at hSw); obtain ⟨q0, q1⟩ := hSw; go_simp; (try with_reducible rfl))
  try simp only [Act.put, List.setIfInBounds_toArray, List.set_cons_zero, List.set_cons_succ]
  refine wpAnyH_ready (rs := [13]) (by kernel_rfl) (by simp) ?_
  refine AllReadyH.cons rfl (fun K hK => ?_) AllReadyH.nil
  go_simp
  (go_at_call 31; refine (GB.out _ hd2).mono ?_; rintro e x3 ⟨rfl, hd3⟩)
  go_wp2_with fail
  refine hK.out _ _ ?_ (fun hHeld => ?_)
  case refine_1 => (exact hSo.out _ (by assumption))
  clear hK K
  try simp only [Act.put, List.setIfInBounds_toArray, List.set_cons_zero, List.set_cons_succ]
  refine wpAnyH_take (i := 14) (oi := ⟨some 50, _, _, _, _, _⟩) (v := ?_) rfl (by kernel_rfl) (by kernel_rfl) (by kernel_rfl) (fun _ _ _ h => h) (Or.inl ⟨by kernel_rfl, ?_⟩) (by assumption) ?_
  case refine_2 => (intro w hSw; (try dsimp only at hSw); obtain ⟨q0, q1⟩ := hSw; go_simp; (try with_reducible rfl))
  try simp only [Act.put, List.setIfInBounds_toArray, List.set_cons_zero, List.set_cons_succ]
  refine wpAnyH_ready (rs := [17]) (by kernel_rfl) (by simp) ?_
  refine AllReadyH.cons rfl (fun K hK => ?_) AllReadyH.nil
  go_simp
  (go_at_call 14; refine (GQ.out _ hd3).mono ?_; rintro e x4 ⟨rfl, hd4⟩)
  go_wp2_with fail
  refine hK.out _ _ ?_ (fun hHeld => ?_)
  case refine_1 => (exact hSo.out _ (by assumption))
  clear hK K
  try simp only [Act.put, List.setIfInBounds_toArray, List.set_cons_zero, List.set_cons_succ]
  refine wpAnyH_take (i := 18) (oi := ⟨some 54, _, _, _, _, _⟩) (v := ?_) rfl (by kernel_rfl) (by kernel_rfl) (by kernel_rfl) (fun _ _ _ h => h) (Or.inl ⟨by kernel_rfl, ?_⟩) (by assumption) ?_
  case refine_2 => (intro w hSw; (try dsimp only at hSw); obtain ⟨q0, q1⟩ := hSw; go_simp; (try with_reducible rfl))
  try simp only [Act.put, List.setIfInBounds_toArray, List.set_cons_zero, List.set_cons_succ]
  refine wpAnyH_take (i := 19) (oi := ⟨some 55, _, _, _, _, _⟩) (v := ?_) rfl (by kernel_rfl) (by kernel_rfl) (by kernel_rfl) (fun _ _ _ h => h) (Or.inl ⟨by kernel_rfl, ?_⟩) (by assumption) ?_
  case refine_2 => (intro w hSw; (try dsimp only at hSw); obtain ⟨q0, q1⟩ := hSw; go_simp; (try with_reducible rfl))
  try simp only [Act.put, List.setIfInBounds_toArray, List.set_cons_zero, List.set_cons_succ]
  refine wpAnyH_take (i := 20) (oi := ⟨some 56, _, _, _, _, _⟩) (v := ?_) rfl (by kernel_rfl) (by kernel_rfl) (by kernel_rfl) (fun _ _ _ h => h) (Or.inl ⟨by kernel_rfl, ?_⟩) (by assumption) ?_
  case refine_2 => (intro w hSw; (try dsimp only at hSw); obtain ⟨q0, q1⟩ := hSw; go_simp; (try with_reducible rfl))
  try simp only [Act.put, List.setIfInBounds_toArray, List.set_cons_zero, List.set_cons_succ]
  refine wpAnyH_take (i := 21) (oi := ⟨some 57, _, _, _, _, _⟩) (v := ?_) rfl (by kernel_rfl) (by kernel_rfl) (by kernel_rfl) (fun _ _ _ h => h) (Or.inl ⟨by kernel_rfl, ?_⟩) (by assumption) ?_
  case refine_2 => (intro w hSw; (try dsimp only at hSw); obtain ⟨q0, q1⟩ := hSw; go_simp; (try with_reducible rfl))
  try simp only [Act.put, List.setIfInBounds_toArray, List.set_cons_zero, List.set_cons_succ]
  refine wpAnyH_take (i := 22) (oi := ⟨some 58, _, _, _, _, _⟩) (v := ?_) rfl (by kernel_rfl) (by kernel_rfl) (by kernel_rfl) (fun _ _ _ h => h) (Or.inl ⟨by kernel_rfl, ?_⟩) (by assumption) ?_
  case refine_2 => (intro w hSw; (try dsimp only at hSw); obtain ⟨q0, q1⟩ := hSw; go_simp; (try with_reducible rfl))
  try simp only [Act.put, List.setIfInBounds_toArray, List.set_cons_zero, List.set_cons_succ]
  refine wpAnyH_take (i := 23) (oi := ⟨some 59, _, _, _, _, _⟩) (v := ?_) rfl (by kernel_rfl) (by kernel_rfl) (by kernel_rfl) (fun _ _ _ h => h) (Or.inl ⟨by kernel_rfl, ?_⟩) (by assumption) ?_
  case refine_2 => (intro w hSw; (try dsimp only at hSw); obtain ⟨q0, q1⟩ := hSw; go_simp; (try with_reducible rfl))
  try simp only [Act.put, List.setIfInBounds_toArray, List.set_cons_zero, List.set_cons_succ]
  refine wpAnyH_take (i := 24) (oi := ⟨some 60, _, _, _, _, _⟩) (v := ?_) rfl (by kernel_rfl) (by kernel_rfl) (by kernel_rfl) (fun _ _ _ h => h) (Or.inl ⟨by kernel_rfl, ?_⟩) (by assumption) ?_
  case refine_2 => (intro w hSw; (try dsimp only at hSw); obtain ⟨q0, q1⟩ := hSw; go_simp; (try with_reducible rfl))
  try simp only [Act.put, List.setIfInBounds_toArray, List.set_cons_zero, List.set_cons_succ]
  refine wpAnyH_take (i := 25) (oi := ⟨some 61, _, _, _, _, _⟩) (v := ?_) rfl (by kernel_rfl) (by kernel_rfl) (by kernel_rfl) (fun _ _ _ h => h) (Or.inl ⟨by kernel_rfl, ?_⟩) (by assumption) ?_
  case refine_2 => (intro w hSw; (try dsimp only at hSw); obtain ⟨q0, q1⟩ := hSw; go_simp; (try with_reducible rfl))
  try simp only [Act.put, List.setIfInBounds_toArray, List.set_cons_zero, List.set_cons_succ]
  refine wpAnyH_take (i := 26) (oi := ⟨some 62, _, _, _, _, _⟩) (v := ?_) rfl (by kernel_rfl) (by kernel_rfl) (by kernel_rfl) (fun _ _ _ h => h) (Or.inl ⟨by kernel_rfl, ?_⟩) (by assumption) ?_
  case refine_2 => (intro w hSw; (try dsimp only at hSw); obtain ⟨q0, q1⟩ := hSw; go_simp; (try with_reducible rfl))
  try simp only [Act.put, List.setIfInBounds_toArray, List.set_cons_zero, List.set_cons_succ]
  refine wpAnyH_take (i := 27) (oi := ⟨some 10, _, _, _, _, _⟩) (v := ?_) rfl (by kernel_rfl) (by kernel_rfl) (by kernel_rfl) (fun _ _ _ h => h) (Or.inl ⟨by kernel_rfl, ?_⟩) (by assumption) ?_
  case refine_2 => (intro w hSw; (try dsimp only at hSw); obtain ⟨q0, q1⟩ := hSw; go_simp; (try with_reducible rfl))
  try simp only [Act.put, List.setIfInBounds_toArray, List.set_cons_zero, List.set_cons_succ]
  refine wpAnyH_done (by kernel_rfl) ?_ _
  go_wp2_with fail
  go_ret
  exact ⟨by first | rfl | simp, HB4.out.trans (hd4.mono HB4.out.size)⟩
end Go.Proofs.YthbnglkpkgpojaaDoor.fnAppendMore
