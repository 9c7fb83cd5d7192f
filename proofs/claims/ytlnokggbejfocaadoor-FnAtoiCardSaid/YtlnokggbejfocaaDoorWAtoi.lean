/-
  The walk of laws.FnAtoi: it returns true.
-/
import Derived.Test.YtlnokggbejfocaaDoorAgreeI
import Derived.Test.YtlnokggbejfocaaDoorAtoiAll
import Derived.Outline
namespace Go.Proofs.YtlnokggbejfocaaDoor.fnAtoi
open Go.RowKit
set_option maxRecDepth 100000
set_option linter.unusedVariables false
set_option linter.unusedSimpArgs false
set_option maxHeartbeats 8000000 in
theorem walk (w : World) (s : ByteArray) (hs : s.size ≤ 140737488351232) (hL : laidMetH Tryd.prog Rows.fnAtoiRow.laid w) :
    Calls Tryd.prog 8 #[.string s] w fun e w' => e = .returned (.bool true) ∧ Below w.heap.size w w' := by
  obtain ⟨aS, aR, hE⟩ := errT_of hL (by kernel_rfl) (by simp [Rows.fnAtoiRow, Rows.laid_strconv_ErrSyntax, synText]) (by simp [Rows.fnAtoiRow, Rows.laid_strconv_ErrRange, rngText])
  obtain ⟨l, rfl⟩ : ∃ l, s = str l := ⟨s.data.toList, (str_toList s).symm⟩
  rw [size_str] at hs
  clear hL
  have SA := specParseInt_any l 10 0 w (.inr (by omega)) (by omega) (by omega) hs
  rw [show (10 : Int).toNat = 10 from rfl, show (0 : Int).toNat = 0 from rfl] at SA
  have P := fun wx (hbx : Below w.heap.size w wx) => Atoi_any l wx (by omega) aS aR (hE.below hbx)
  have hag := agreedI l 10 0 (.inr (by omega)) (by omega)
  have hcode := pIe_code l 10 0
  generalize iSpec (specRead (noSign l) 10) (!l.isEmpty) (isMinus l) (mostN 0 (isMinus l)) = U at *
  obtain ⟨v, k, o⟩ := U
  simp only at SA hag
  obtain ⟨kI, hkI⟩ : ∃ kI : Int, kI = (k : Int) := ⟨_, rfl⟩
  rw [← hkI] at SA
  have SA := Lib.hid SA
  have e1 : (str l).toList = l := by rw [Lib.toList_data]; rfl
  cases o
  rotate_left
  · generalize pIe l 10 0 = q at *
    obtain ⟨uv, uk⟩ := q
    simp only at P hcode
    obtain ⟨kk, xb, yb, P2⟩ : ∃ (k : Int) (x y : ByteArray), ∀ wx, Below w.heap.size w wx → Calls Tryd.prog 21 #[.string (str l)] wx fun e w' => e = .returned (.tuple #[.int .i64 uv, .agg #[.int .i64 k, .string x, .string y]]) ∧ Below wx.heap.size wx w' := by
      rcases hcode with rfl | rfl | rfl
      · exact ⟨0, str [], str [], P⟩
      · exact ⟨2, str atText, str l, P⟩
      · exact ⟨1, str atText, str l, P⟩
    have P2 := Lib.hid P2
    clear hE P hag hcode hkI
    go_enter Tryd.func8, Tryd.ntmps8
    go_wp2_with (first
      | (go_at_call 18; refine SA.out.mono ?_; rintro e w1 ⟨rfl, hw1⟩)
      | (go_at_call 21; refine (P2.out w1 hw1).mono ?_; rintro e w2 ⟨rfl, hw2⟩; have hb2 := hw1.trans (hw2.mono hw1.size)))
    all_goals first | (exfalso; omega) | skip
    go_ret
    exact ⟨by simp, hb2.trans ((Below.refl _ _).alloc hb2.size _)⟩
  obtain ⟨v', k', hp, hkk, hv⟩ := hag rfl
  subst hv
  rw [hp] at P
  rcases hkk with ⟨rfl, h⟩ | ⟨rfl, h⟩ | ⟨rfl, h⟩
  · obtain rfl : kI = 0 := by omega
    have P2 := Lib.hid (show ∀ wx, Below w.heap.size w wx → Calls Tryd.prog 21 #[.string (str l)] wx fun e w' => e = .returned (.tuple #[.int .i64 v, .agg #[.int .i64 0, .string (str []), .string (str [])]]) ∧ Below wx.heap.size wx w' from P)
    clear hE P hcode hkI hp h
    go_enter Tryd.func8, Tryd.ntmps8
    go_wp2_with (first
      | (go_at_call 18; refine SA.out.mono ?_; rintro e w1 ⟨rfl, hw1⟩)
      | (go_at_call 21; refine (P2.out w1 hw1).mono ?_; rintro e w2 ⟨rfl, hw2⟩; have hb2 := hw1.trans (hw2.mono hw1.size)))
    all_goals first | (exfalso; omega) | skip
    go_ret
    exact ⟨by simp, hb2.trans ((Below.refl _ _).alloc hb2.size _)⟩
  · obtain rfl : kI = 2 := by omega
    have P2 := Lib.hid (show ∀ wx, Below w.heap.size w wx → Calls Tryd.prog 21 #[.string (str l)] wx fun e w' => e = .returned (.tuple #[.int .i64 v, .agg #[.int .i64 2, .string (str atText), .string (str l)]]) ∧ Below wx.heap.size wx w' from P)
    clear hE P hcode hkI hp h
    go_enter Tryd.func8, Tryd.ntmps8
    go_wp2_with (first
      | (go_at_call 18; refine SA.out.mono ?_; rintro e w1 ⟨rfl, hw1⟩)
      | (go_at_call 21; refine (P2.out w1 hw1).mono ?_; rintro e w2 ⟨rfl, hw2⟩; have hb2 := hw1.trans (hw2.mono hw1.size)))
    all_goals first | (exfalso; omega) | skip
    go_ret
    exact ⟨by simp, hb2.trans ((Below.refl _ _).alloc hb2.size _)⟩
  · obtain rfl : kI = 1 := by omega
    have P2 := Lib.hid (show ∀ wx, Below w.heap.size w wx → Calls Tryd.prog 21 #[.string (str l)] wx fun e w' => e = .returned (.tuple #[.int .i64 v, .agg #[.int .i64 1, .string (str atText), .string (str l)]]) ∧ Below wx.heap.size wx w' from P)
    clear hE P hcode hkI hp h
    go_enter Tryd.func8, Tryd.ntmps8
    go_wp2_with (first
      | (go_at_call 18; refine SA.out.mono ?_; rintro e w1 ⟨rfl, hw1⟩)
      | (go_at_call 21; refine (P2.out w1 hw1).mono ?_; rintro e w2 ⟨rfl, hw2⟩; have hb2 := hw1.trans (hw2.mono hw1.size)))
    all_goals first | (exfalso; omega) | skip
    go_ret
    exact ⟨by simp, hb2.trans ((Below.refl _ _).alloc hb2.size _)⟩
end Go.Proofs.YtlnokggbejfocaaDoor.fnAtoi
