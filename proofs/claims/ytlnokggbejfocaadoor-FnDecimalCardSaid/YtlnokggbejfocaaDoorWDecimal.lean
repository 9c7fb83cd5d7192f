/-
  The walk of laws.FnDecimal: it returns true.
-/
import Derived.Test.YtlnokggbejfocaaDoorAtoiAll
import Derived.Test.YtlnokggbejfocaaDoorItoa
import Derived.Test.YtlnokggbejfocaaDoorNumRange
import Derived.Test.YtlnokggbejfocaaDoorPlainRoundI
import Derived.Deep.QuietTactic
import Derived.BigQuiet
import Derived.Deep.RegionHeld3
import Derived.Outline
namespace Go.Proofs.YtlnokggbejfocaaDoor.fnDecimal
open Go.RowKit
set_option maxRecDepth 100000
set_option linter.unusedVariables false
set_option linter.unusedSimpArgs false
theorem half0 : ((2 ^ ((if (0 : Nat) = 0 then 64 else 0) - 1) : Nat) : Int) = 9223372036854775808 := by decide
set_option maxHeartbeats 8000000 in
theorem walk (w : World) (i : Int) (hi : (Lit.int .i64 i).wf = true) (hL : laidMetH Tryd.prog Rows.fnDecimalRow.laid w) :
    Calls Tryd.prog 9 #[.int .i64 i] w fun e w' => e = .returned (.bool true) ∧ Below w.heap.size w w' := by
  have hT : NumT w := ⟨pow10T_of hL (by kernel_rfl) (by simp [Rows.fnDecimalRow]), bruT_of hL (by kernel_rfl) (by simp [Rows.fnDecimalRow])⟩
  obtain ⟨aS, aR, hE⟩ := errT_of hL (by kernel_rfl) (by simp [Rows.fnDecimalRow, Rows.laid_strconv_ErrSyntax, synText]) (by simp [Rows.fnDecimalRow, Rows.laid_strconv_ErrRange, rngText])
  have hi := wf_i64 hi
  clear hL
  have I := Lib.hid (iItoa_any i w hi.1 hi.2 hT.1)
  have FI := Lib.hid (fun wx (hbx : Below w.heap.size w wx) => FormatInt_any i 10 wx (by omega) (by omega) hi.1 hi.2 (hT.below hbx))
  have hlen := fmtI_length (b := 10) (i := i) (by omega) hi.1 hi.2
  have hv := pIe_fmtI (b := 10) (bits := 0) (by omega) (by omega) (by decide) i
  rw [half0, if_pos (by omega), if_pos (by omega)] at hv
  have A0 := fun wx (hbx : Below w.heap.size w wx) => Atoi_any (fmtI 10 i) wx (by omega) aS aR (hE.below hbx)
  have P0 := fun wx (hbx : Below w.heap.size w wx) => ParseInt_any (fmtI 10 i) 10 0 wx (.inr (by omega)) (by omega) (by omega) (by omega) aS aR (hE.below hbx)
  rw [show (10 : Int).toNat = 10 from rfl, show (0 : Int).toNat = 0 from rfl] at P0
  rw [hv] at A0 P0
  have hne : fmtI 10 i ≠ [] := by
    rw [fmtI]; split
    · simp
    · exact digB_ne
  have AA := Lib.hid (show ∀ wx, Below w.heap.size w wx → Calls Tryd.prog 21 #[.string (str (fmtI 10 i))] wx fun e w' => e = .returned (.tuple #[.int .i64 i, .agg #[.int .i64 0, .string (str []), .string (str [])]]) ∧ Below wx.heap.size wx w' from A0)
  have PP := Lib.hid (show ∀ wx, Below w.heap.size w wx → Calls Tryd.prog 11 #[.string (str (fmtI 10 i)), .int .i64 10, .int .i64 0] wx fun e w' => e = .returned (.tuple #[.int .i64 i, .agg #[.int .i64 0, .string (str []), .string (str [])]]) ∧ Below wx.heap.size wx w' from P0)
  by_cases hneg : i < 0
  · have hD : fmtI 10 i = 45 :: digB 10 i.natAbs := by rw [fmtI, if_pos hneg]
    obtain ⟨R, hR⟩ : ∃ R, R = digB 10 i.natAbs := ⟨_, rfl⟩
    rw [← hR] at hD
    have hsl := slice_str1 (P := Tryd.prog) 9 Tryd.underlying9 (45 :: R) (by simp)
    have hidx := idx_str0 (P := Tryd.prog) 9 Tryd.underlying9 (l := 45 :: R) (c := 45) rfl
    rw [show ((45 : UInt8).toNat : Int) = 45 from rfl] at hidx
    rw [show (45 :: R).drop 1 = R from rfl] at hsl
    have eL : (str (45 :: R)).size = R.length + 1 := by rw [size_str]; rfl
    have eT : (str (45 :: R)).toList.isEmpty = false := by rw [Lib.toList_data]; rfl
    rw [hD] at I FI AA PP
    have C := fun (h : -9223372036854775808 < i) => Lib.hid (fun wx (hbx : Below w.heap.size w wx) => iItoa_any (-i) wx (by omega) (by omega) (hT.below hbx).1)
    have hfm : fmtI 10 (-i) = R := by rw [fmtI, if_neg (by omega), hR]; congr 1; omega
    rw [hfm] at C
    have hlr : R.length ≤ 70 := by rw [hD] at hlen; simp at hlen; omega
    obtain ⟨D, hDD⟩ : ∃ D, D = 45 :: R := ⟨_, rfl⟩
    rw [← hDD] at I FI AA PP hsl hidx eL eT
    have x0 := hi.1
    by_cases hmin : i = -9223372036854775808
    · subst hmin
      clear hT hE hi A0 P0 hv hD hR hDD C hfm hne hlen
      go_enter Tryd.func9, Tryd.ntmps9
      go_wp2_with (first
        | (go_at_call 22; refine I.out.mono ?_; rintro e w1 ⟨rfl, hw1⟩)
        | (go_at_call 21; refine (AA.out w1 hw1).mono ?_; rintro e w2 ⟨rfl, hw2⟩; have hb2 := hw1.trans (hw2.mono hw1.size))
        | (go_at_call 11; refine (PP.out _ (hb2.trans ((Below.refl _ _).alloc hb2.size _))).mono ?_; rintro e w3 ⟨rfl, hw3⟩; have hb3 := (hb2.trans ((Below.refl _ _).alloc hb2.size _)).trans (hw3.mono (Nat.le_trans hb2.size (by simp))); obtain ⟨hc3, hf3⟩ := bcell2 hw3; have hs3 : w2.heap.size < w3.heap.size := Nat.lt_of_lt_of_le (by simp) hw3.size)
        | (go_at_call 23; refine (FI.out _ (hb3.trans ((Below.refl _ _).alloc hb3.size _))).mono ?_; rintro e w4 ⟨rfl, hw4⟩; have hb4 := (hb3.trans ((Below.refl _ _).alloc hb3.size _)).trans (hw4.mono (Nat.le_trans hb3.size (by simp))); obtain ⟨hc4, hf4⟩ := bcell2 hw4; have hs4 : w3.heap.size < w4.heap.size := Nat.lt_of_lt_of_le (by simp) hw4.size; have hs34 : w2.heap.size < w4.heap.size := Nat.lt_trans hs3 hs4))
      all_goals first | (exfalso; omega) | skip
      go_quiet (fail)
      go_wp2_with fail
      go_ret
      exact ⟨by simp, hb4.trans ((below_drewN _ _).mono hb4.size)⟩
    · have CC := C (by omega)
      have q1 : (i == -i) = false := by simp; omega
      have y1 : -9223372036854775808 < i := by omega
      obtain ⟨j, hj⟩ : ∃ j, j = -i := ⟨_, rfl⟩
      have hw' : wrap64 (-i) = j := by rw [hj]; exact IntWalk.wrap64_in _ ⟨by omega, by omega⟩
      have hw2' : IntKind.i64.wrap (-i) = j := by rw [hj, IntKind.wrap_i64]; omega
      rw [← hj] at CC q1
      clear hT hE hi A0 P0 hv hD hR hDD C hfm hne hlen hmin hj
      go_enter Tryd.func9, Tryd.ntmps9
      have tok0 : True := trivial
      go_wp2_with (first
        | (go_at_call 22; have _t := tok0; clear tok0; refine I.out.mono ?_; rintro e w1 ⟨rfl, hw1⟩)
        | (go_at_call 21; refine (AA.out w1 hw1).mono ?_; rintro e w2 ⟨rfl, hw2⟩; have hb2 := hw1.trans (hw2.mono hw1.size))
        | (go_at_call 11; refine (PP.out _ (hb2.trans ((Below.refl _ _).alloc hb2.size _))).mono ?_; rintro e w3 ⟨rfl, hw3⟩; have hb3 := (hb2.trans ((Below.refl _ _).alloc hb2.size _)).trans (hw3.mono (Nat.le_trans hb2.size (by simp))); obtain ⟨hc3, hf3⟩ := bcell2 hw3; have hs3 : w2.heap.size < w3.heap.size := Nat.lt_of_lt_of_le (by simp) hw3.size)
        | (go_at_call 23; refine (FI.out _ (hb3.trans ((Below.refl _ _).alloc hb3.size _))).mono ?_; rintro e w4 ⟨rfl, hw4⟩; have hb4 := (hb3.trans ((Below.refl _ _).alloc hb3.size _)).trans (hw4.mono (Nat.le_trans hb3.size (by simp))); obtain ⟨hc4, hf4⟩ := bcell2 hw4; have hs4 : w3.heap.size < w4.heap.size := Nat.lt_of_lt_of_le (by simp) hw4.size; have hs34 : w2.heap.size < w4.heap.size := Nat.lt_trans hs3 hs4))
      all_goals first | (exfalso; omega) | skip
      refine wp_region_held_drew (S := fun _ => True) (by kernel_rfl) trivial (fun hHeld => ?_)
      refine wpAnyH_take (i := 0) (oi := ⟨some 52, _, _, _, _, _⟩) (v := ?_) rfl (by kernel_rfl) (by kernel_rfl) (by kernel_rfl) (fun _ _ _ h => h) (Or.inl ⟨by kernel_rfl, ?_⟩) (by assumption) ?_
      case refine_2 => (intro w hSw; (try dsimp only at hSw); go_simp; (try with_reducible rfl))
      try simp only [Act.put, List.setIfInBounds_toArray, List.set_cons_zero, List.set_cons_succ]
      refine wpAnyH_take (i := 1) (oi := ⟨some 53, _, _, _, _, _⟩) (v := ?_) rfl (by kernel_rfl) (by kernel_rfl) (by kernel_rfl) (fun _ _ _ h => h) (Or.inl ⟨by kernel_rfl, ?_⟩) (by assumption) ?_
      case refine_2 => (intro w hSw; (try dsimp only at hSw); go_simp; (try with_reducible rfl))
      try simp only [Act.put, List.setIfInBounds_toArray, List.set_cons_zero, List.set_cons_succ]
      refine wpAnyH_take (i := 2) (oi := ⟨some 54, _, _, _, _, _⟩) (v := ?_) rfl (by kernel_rfl) (by kernel_rfl) (by kernel_rfl) (fun _ _ _ h => h) (Or.inl ⟨by kernel_rfl, ?_⟩) (by assumption) ?_
      case refine_2 => (intro w hSw; (try dsimp only at hSw); go_simp; (try with_reducible rfl))
      try simp only [Act.put, List.setIfInBounds_toArray, List.set_cons_zero, List.set_cons_succ]
      refine wpAnyH_take (i := 3) (oi := ⟨some 55, _, _, _, _, _⟩) (v := ?_) rfl (by kernel_rfl) (by kernel_rfl) (by kernel_rfl) (fun _ _ _ h => h) (Or.inl ⟨by kernel_rfl, ?_⟩) (by assumption) ?_
      case refine_2 => (intro w hSw; (try dsimp only at hSw); go_simp; (try with_reducible rfl))
      try simp only [Act.put, List.setIfInBounds_toArray, List.set_cons_zero, List.set_cons_succ]
      refine wpAnyH_take (i := 4) (oi := ⟨some 56, _, _, _, _, _⟩) (v := ?_) rfl (by kernel_rfl) (by kernel_rfl) (by kernel_rfl) (fun _ _ _ h => h) (Or.inl ⟨by kernel_rfl, ?_⟩) (by assumption) ?_
      case refine_2 => (intro w hSw; (try dsimp only at hSw); go_simp; (try with_reducible rfl))
      try simp only [Act.put, List.setIfInBounds_toArray, List.set_cons_zero, List.set_cons_succ]
      refine wpAnyH_take (i := 5) (oi := ⟨some 57, _, _, _, _, _⟩) (v := ?_) rfl (by kernel_rfl) (by kernel_rfl) (by kernel_rfl) (fun _ _ _ h => h) (Or.inl ⟨by kernel_rfl, ?_⟩) (by assumption) ?_
      case refine_2 => (intro w hSw; (try dsimp only at hSw); go_simp; (try with_reducible rfl))
      try simp only [Act.put, List.setIfInBounds_toArray, List.set_cons_zero, List.set_cons_succ]
      refine wpAnyH_take (i := 6) (oi := ⟨some 58, _, _, _, _, _⟩) (v := ?_) rfl (by kernel_rfl) (by kernel_rfl) (by kernel_rfl) (fun _ _ _ h => h) (Or.inl ⟨by kernel_rfl, ?_⟩) (by assumption) ?_
      case refine_2 => (intro w hSw; (try dsimp only at hSw); go_simp; (try with_reducible rfl))
      try simp only [Act.put, List.setIfInBounds_toArray, List.set_cons_zero, List.set_cons_succ]
      refine wpAnyH_take (i := 7) (oi := ⟨some 59, _, _, _, _, _⟩) (v := ?_) rfl (by kernel_rfl) (by kernel_rfl) (by kernel_rfl) (fun _ _ _ h => h) (Or.inl ⟨by kernel_rfl, ?_⟩) (by assumption) ?_
      case refine_2 => (intro w hSw; (try dsimp only at hSw); go_simp; (try with_reducible rfl))
      try simp only [Act.put, List.setIfInBounds_toArray, List.set_cons_zero, List.set_cons_succ]
      refine wpAnyH_take (i := 8) (oi := ⟨some 60, _, _, _, _, _⟩) (v := ?_) rfl (by kernel_rfl) (by kernel_rfl) (by kernel_rfl) (fun _ _ _ h => h) (Or.inl ⟨by kernel_rfl, ?_⟩) (by assumption) ?_
      case refine_2 => (intro w hSw; (try dsimp only at hSw); go_simp; (try with_reducible rfl))
      try simp only [Act.put, List.setIfInBounds_toArray, List.set_cons_zero, List.set_cons_succ]
      refine wpAnyH_take (i := 9) (oi := ⟨some 61, _, _, _, _, _⟩) (v := ?_) rfl (by kernel_rfl) (by kernel_rfl) (by kernel_rfl) (fun _ _ _ h => h) (Or.inl ⟨by kernel_rfl, ?_⟩) (by assumption) ?_
      case refine_2 => (intro w hSw; (try dsimp only at hSw); go_simp; (try with_reducible rfl))
      try simp only [Act.put, List.setIfInBounds_toArray, List.set_cons_zero, List.set_cons_succ]
      refine wpAnyH_take (i := 10) (oi := ⟨some 62, _, _, _, _, _⟩) (v := ?_) rfl (by kernel_rfl) (by kernel_rfl) (by kernel_rfl) (fun _ _ _ h => h) (Or.inl ⟨by kernel_rfl, ?_⟩) (by assumption) ?_
      case refine_2 => (intro w hSw; (try dsimp only at hSw); go_simp; (try with_reducible rfl))
      try simp only [Act.put, List.setIfInBounds_toArray, List.set_cons_zero, List.set_cons_succ]
      refine wpAnyH_take (i := 12) (oi := ⟨some 64, _, _, _, _, _⟩) (v := ?_) rfl (by kernel_rfl) (by kernel_rfl) (by kernel_rfl) (fun _ _ _ h => h) (Or.inl ⟨by kernel_rfl, ?_⟩) (by assumption) ?_
      case refine_2 => (intro w hSw; (try dsimp only at hSw); go_simp; (try with_reducible rfl))
      try simp only [Act.put, List.setIfInBounds_toArray, List.set_cons_zero, List.set_cons_succ]
      refine wpAnyH_take (i := 13) (oi := ⟨some 65, _, _, _, _, _⟩) (v := ?_) rfl (by kernel_rfl) (by kernel_rfl) (by kernel_rfl) (fun _ _ _ h => h) (Or.inl ⟨by kernel_rfl, ?_⟩) (by assumption) ?_
      case refine_2 => (intro w hSw; (try dsimp only at hSw); go_simp; (try with_reducible rfl))
      try simp only [Act.put, List.setIfInBounds_toArray, List.set_cons_zero, List.set_cons_succ]
      refine wpAnyH_ready (rs := [11]) (by kernel_rfl) (by simp) ?_
      refine AllReadyH.cons rfl (fun K hK => ?_) AllReadyH.nil
      rw [if_pos (by kernel_rfl)]
      go_simp
      (go_at_call 22; refine (CC.out _ (hb4.trans ((Below.refl _ _).drew.mono hb4.size))).mono ?_; rintro e w5 ⟨rfl, hw5⟩; have hb5 := (hb4.trans ((Below.refl _ _).drew.mono hb4.size)).trans (hw5.mono hb4.size))
      go_wp2_with fail
      refine hK.out _ _ ?_ (fun hHeld => ?_)
      case refine_1 => (exact trivial)
      clear hK K
      try simp only [Act.put, List.setIfInBounds_toArray, List.set_cons_zero, List.set_cons_succ]
      refine wpAnyH_take (i := 14) (oi := ⟨some 66, _, _, _, _, _⟩) (v := ?_) rfl (by kernel_rfl) (by kernel_rfl) (by kernel_rfl) (fun _ _ _ h => h) (Or.inl ⟨by kernel_rfl, ?_⟩) (by assumption) ?_
      case refine_2 => (intro w hSw; (try dsimp only at hSw); go_simp; (try with_reducible rfl))
      try simp only [Act.put, List.setIfInBounds_toArray, List.set_cons_zero, List.set_cons_succ]
      refine wpAnyH_take (i := 15) (oi := ⟨some 67, _, _, _, _, _⟩) (v := ?_) rfl (by kernel_rfl) (by kernel_rfl) (by kernel_rfl) (fun _ _ _ h => h) (Or.inl ⟨by kernel_rfl, ?_⟩) (by assumption) ?_
      case refine_2 => (intro w hSw; (try dsimp only at hSw); go_simp; (try with_reducible rfl))
      try simp only [Act.put, List.setIfInBounds_toArray, List.set_cons_zero, List.set_cons_succ]
      refine wpAnyH_take (i := 16) (oi := ⟨some 68, _, _, _, _, _⟩) (v := ?_) rfl (by kernel_rfl) (by kernel_rfl) (by kernel_rfl) (fun _ _ _ h => h) (Or.inl ⟨by kernel_rfl, ?_⟩) (by assumption) ?_
      case refine_2 => (intro w hSw; (try dsimp only at hSw); go_simp; (try with_reducible rfl))
      try simp only [Act.put, List.setIfInBounds_toArray, List.set_cons_zero, List.set_cons_succ]
      refine wpAnyH_take (i := 17) (oi := ⟨some 2, _, _, _, _, _⟩) (v := ?_) rfl (by kernel_rfl) (by kernel_rfl) (by kernel_rfl) (fun _ _ _ h => h) (Or.inl ⟨by kernel_rfl, ?_⟩) (by assumption) ?_
      case refine_2 => (intro w hSw; (try dsimp only at hSw); go_simp; (try with_reducible rfl))
      try simp only [Act.put, List.setIfInBounds_toArray, List.set_cons_zero, List.set_cons_succ]
      refine wpAnyH_done (by kernel_rfl) ?_ _
      go_wp2_with fail
      go_ret
      exact ⟨by simp, hb5⟩
  · have hpos : 0 ≤ i := by omega
    obtain ⟨n, rfl⟩ : ∃ n : Nat, i = n := ⟨i.toNat, by omega⟩
    have hD : fmtI 10 (n : Int) = digB 10 n := by rw [fmtI, if_neg (by omega)]; congr 1
    rw [hD] at I FI AA PP hne hlen
    have FU := Lib.hid (fun wx (hbx : Below w.heap.size w wx) => FormatUint_any n 10 wx (by omega) (by omega) (by omega) (hT.below hbx))
    have U0 := fun wx (hbx : Below w.heap.size w wx) => ParseUint_any (digB 10 n) 10 0 wx (.inr (by omega)) (by omega) (by omega) (by omega) aS aR (hE.below hbx)
    rw [show (10 : Int).toNat = 10 from rfl, show (0 : Int).toNat = 0 from rfl, pUe_digB (by omega) (by omega), if_pos (show n ≤ 2 ^ (if (0 : Nat) = 0 then 64 else 0) - 1 by rw [show (2 : Nat) ^ (if (0 : Nat) = 0 then 64 else 0) - 1 = 18446744073709551615 by decide]; omega)] at U0
    obtain ⟨x, hx⟩ : ∃ x : Int, x = (n : Int) := ⟨_, rfl⟩
    have UU := Lib.hid (show ∀ wx, Below w.heap.size w wx → Calls Tryd.prog 12 #[.string (str (digB 10 n)), .int .i64 10, .int .i64 0] wx fun e w' => e = .returned (.tuple #[.int .u64 x, .agg #[.int .i64 0, .string (str []), .string (str [])]]) ∧ Below wx.heap.size wx w' by rw [hx]; exact U0)
    obtain ⟨D, hDD⟩ : ∃ D, D = digB 10 n := ⟨_, rfl⟩
    rw [← hDD] at I FI AA PP UU FU hne
    rw [← hx] at I FI AA PP FU hi hpos ⊢
    have x0 := hi.1
    have x1 := hi.2
    have eT : (str D).toList.isEmpty = false := by rw [Lib.toList_data]; simpa [str] using hne
    clear hT hE hi A0 P0 U0 hv hD hDD hne hlen hneg hx
    go_enter Tryd.func9, Tryd.ntmps9
    go_wp2_with (first
      | (go_at_call 22; refine I.out.mono ?_; rintro e w1 ⟨rfl, hw1⟩)
      | (go_at_call 21; refine (AA.out w1 hw1).mono ?_; rintro e w2 ⟨rfl, hw2⟩; have hb2 := hw1.trans (hw2.mono hw1.size))
      | (go_at_call 11; refine (PP.out _ (hb2.trans ((Below.refl _ _).alloc hb2.size _))).mono ?_; rintro e w3 ⟨rfl, hw3⟩; have hb3 := (hb2.trans ((Below.refl _ _).alloc hb2.size _)).trans (hw3.mono (Nat.le_trans hb2.size (by simp))); obtain ⟨hc3, hf3⟩ := bcell2 hw3; have hs3 : w2.heap.size < w3.heap.size := Nat.lt_of_lt_of_le (by simp) hw3.size)
      | (go_at_call 23; refine (FI.out _ (hb3.trans ((Below.refl _ _).alloc hb3.size _))).mono ?_; rintro e w4 ⟨rfl, hw4⟩; have hb4 := (hb3.trans ((Below.refl _ _).alloc hb3.size _)).trans (hw4.mono (Nat.le_trans hb3.size (by simp))); obtain ⟨hc4, hf4⟩ := bcell2 hw4; have hs4 : w3.heap.size < w4.heap.size := Nat.lt_of_lt_of_le (by simp) hw4.size; have hs34 : w2.heap.size < w4.heap.size := Nat.lt_trans hs3 hs4)
      | (go_at_call 12; refine (UU.out _ hb4).mono ?_; rintro e w5 ⟨rfl, hw5⟩; have hb5 := hb4.trans (hw5.mono hb4.size); obtain ⟨hc5, hf5⟩ := bcell2 hw5)
      | (go_at_call 24; refine (FU.out _ (hb5.trans ((Below.refl _ _).alloc hb5.size _))).mono ?_; rintro e w6 ⟨rfl, hw6⟩; have hb6 := (hb5.trans ((Below.refl _ _).alloc hb5.size _)).trans (hw6.mono (Nat.le_trans hb5.size (by simp))); obtain ⟨hc6, hf6⟩ := bcell2 hw6))
    all_goals first | (exfalso; omega) | skip
    go_ret
    exact ⟨by simp, hb6⟩
end Go.Proofs.YtlnokggbejfocaaDoor.fnDecimal
