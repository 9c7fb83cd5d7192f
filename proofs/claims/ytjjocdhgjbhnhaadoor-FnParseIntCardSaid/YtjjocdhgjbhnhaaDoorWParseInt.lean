/-
  The walk of laws.FnParseInt: it returns true.
-/
import Derived.Test.YtjjocdhgjbhnhaaDoorAgreeI
import Derived.Test.YtjjocdhgjbhnhaaDoorParse
import Derived.Test.YtjjocdhgjbhnhaaDoorTells
namespace Go.Proofs.YtjjocdhgjbhnhaaDoor.fnParseInt
open Go.RowKit
set_option maxRecDepth 100000
set_option linter.unusedVariables false
theorem wf_i64' {x : Int} (h : (Lit.int .i64 x).wf = true) : -9223372036854775808 ≤ x ∧ x ≤ 9223372036854775807 := by simpa [Lit.wf, IntKind.min, IntKind.max, IntKind.signed, IntKind.bits] using h
set_option maxHeartbeats 4000000 in
theorem walk (w : World) (s : ByteArray) (hs : s.size ≤ 140737488351232) (base : Int) (hbase : (Lit.int .i64 base).wf = true) (bits : Int) (hbits : (Lit.int .i64 bits).wf = true) (hL : laidMetH Tryd.prog Rows.fnParseIntRow.laid w) :
    Calls Tryd.prog 12 #[.string s, .int .i64 base, .int .i64 bits] w fun e w' => e = .returned (.bool true) ∧ Below w.heap.size w w' := by
  obtain ⟨aS, aR, hE⟩ := errT_of hL (by kernel_rfl) (by simp [Rows.fnParseIntRow, Rows.laid_strconv_ErrSyntax, synText]) (by simp [Rows.fnParseIntRow, Rows.laid_strconv_ErrRange, rngText])
  obtain ⟨l, rfl⟩ : ∃ l, s = str l := ⟨s.data.toList, (str_toList s).symm⟩
  rw [size_str] at hs
  have AK := Lib.hid (asked_any base bits w)
  clear hL
  cases hask : askedB base bits
  · rw [hask] at AK
    clear hE hask
    go_enter Tryd.func12, Tryd.ntmps12
    go_wp2_with (go_at_call 22; refine AK.out.mono ?_; rintro e w1 ⟨rfl, rfl⟩)
    go_ret
    exact ⟨rfl, Below.refl _ _⟩
  · rw [hask] at AK
    by_cases hone : bits = 1
    · subst hone
      clear hE hask
      go_enter Tryd.func12, Tryd.ntmps12
      go_wp2_with (go_at_call 22; refine AK.out.mono ?_; rintro e w1 ⟨rfl, rfl⟩)
      go_ret
      exact ⟨rfl, Below.refl _ _⟩
    have q1 : (bits == 1) = false := by simpa using hone
    obtain ⟨hb, hb0, hb64⟩ := askedB_iff.1 hask
    have S := Lib.hid (specParseInt_any l base bits w hb hb0 hb64 hs)
    have P := fun wx (hbx : Below w.heap.size w wx) => ParseInt_any l base bits wx hb hb0 hb64 (by omega) aS aR (hE.below hbx)
    have hag := agreedI l base.toNat bits.toNat (by omega) (by omega)
    have hcode := pIe_code l base.toNat bits.toNat
    obtain ⟨U, hU⟩ : ∃ U, U = iSpec (specRead (noSign l) base.toNat) (!l.isEmpty) (isMinus l) (mostN bits.toNat (isMinus l)) := ⟨_, rfl⟩
    rw [← hU] at S hag
    obtain ⟨q, hq⟩ : ∃ q, q = pIe l base.toNat bits.toNat := ⟨_, rfl⟩
    rw [← hq] at P hag hcode
    obtain ⟨v, k⟩ := q
    obtain ⟨a, kd, op⟩ := U
    simp only at P hag hcode S
    clear hU hq hask hE hone
    obtain ⟨vI, hvI⟩ : ∃ vI : Int, vI = v := ⟨_, rfl⟩
    rw [← hvI] at P
    have e1 : (str l).toList = l := by rw [Lib.toList_data]; rfl
    cases op
    · obtain ⟨v', k', h1, h2, h3⟩ := hag rfl
      obtain ⟨rfl, rfl⟩ := Prod.mk.inj h1
      subst h3
      rw [← hvI] at S
      rcases h2 with ⟨rfl, rfl⟩ | ⟨rfl, rfl⟩ | ⟨rfl, rfl⟩
      · have PP := Lib.hid (show ∀ wx, Below w.heap.size w wx → Calls Tryd.prog 28 #[.string (str l), .int .i64 base, .int .i64 bits] wx fun e w' => e = .returned (.tuple #[.int .i64 vI, .agg #[.int .i64 0, .string (str []), .string (str [])]]) ∧ Below wx.heap.size wx w' from P)
        have TT := Lib.hid fun wx => tells_fits 0 (str []) (str []) (str piText) (str l) wx
        clear P hag hcode hvI h1 hb hb0 hb64
        go_enter Tryd.func12, Tryd.ntmps12
        go_wp2_with (first
          | (go_at_call 22; refine AK.out.mono ?_; rintro e w1 ⟨rfl, rfl⟩)
          | (go_at_call 27; refine S.out.mono ?_; rintro e w2 ⟨rfl, hw2⟩)
          | (go_at_call 28; refine (PP.out w2 hw2).mono ?_; rintro e w3 ⟨rfl, hw3⟩)
          | (go_at_call 17; refine (TT.out _).mono ?_; rintro e w4 ⟨rfl, hw4⟩))
        go_ret
        exact ⟨rfl, (((hw2.trans (hw3.mono hw2.size)).trans ((Below.refl _ _).alloc (Nat.le_trans hw2.size hw3.size) _))).trans (hw4.mono (by have := hw2.size; have := hw3.size; simp; omega))⟩
      · have PP := Lib.hid (show ∀ wx, Below w.heap.size w wx → Calls Tryd.prog 28 #[.string (str l), .int .i64 base, .int .i64 bits] wx fun e w' => e = .returned (.tuple #[.int .i64 vI, .agg #[.int .i64 2, .string (str piText), .string (str l)]]) ∧ Below wx.heap.size wx w' from P)
        have TT := Lib.hid fun wx => tells_same 2 rfl piText l wx
        clear P hag hcode hvI h1 hb hb0 hb64
        go_enter Tryd.func12, Tryd.ntmps12
        go_wp2_with (first
          | (go_at_call 22; refine AK.out.mono ?_; rintro e w1 ⟨rfl, rfl⟩)
          | (go_at_call 27; refine S.out.mono ?_; rintro e w2 ⟨rfl, hw2⟩)
          | (go_at_call 28; refine (PP.out w2 hw2).mono ?_; rintro e w3 ⟨rfl, hw3⟩)
          | (go_at_call 17; refine (TT.out _).mono ?_; rintro e w4 ⟨rfl, hw4⟩))
        go_ret
        exact ⟨rfl, (((hw2.trans (hw3.mono hw2.size)).trans ((Below.refl _ _).alloc (Nat.le_trans hw2.size hw3.size) _))).trans (hw4.mono (by have := hw2.size; have := hw3.size; simp; omega))⟩
      · have PP := Lib.hid (show ∀ wx, Below w.heap.size w wx → Calls Tryd.prog 28 #[.string (str l), .int .i64 base, .int .i64 bits] wx fun e w' => e = .returned (.tuple #[.int .i64 vI, .agg #[.int .i64 1, .string (str piText), .string (str l)]]) ∧ Below wx.heap.size wx w' from P)
        have TT := Lib.hid fun wx => tells_same 1 rfl piText l wx
        clear P hag hcode hvI h1 hb hb0 hb64
        go_enter Tryd.func12, Tryd.ntmps12
        go_wp2_with (first
          | (go_at_call 22; refine AK.out.mono ?_; rintro e w1 ⟨rfl, rfl⟩)
          | (go_at_call 27; refine S.out.mono ?_; rintro e w2 ⟨rfl, hw2⟩)
          | (go_at_call 28; refine (PP.out w2 hw2).mono ?_; rintro e w3 ⟨rfl, hw3⟩)
          | (go_at_call 17; refine (TT.out _).mono ?_; rintro e w4 ⟨rfl, hw4⟩))
        go_ret
        exact ⟨rfl, (((hw2.trans (hw3.mono hw2.size)).trans ((Below.refl _ _).alloc (Nat.le_trans hw2.size hw3.size) _))).trans (hw4.mono (by have := hw2.size; have := hw3.size; simp; omega))⟩
    · have PP := Lib.hid (show ∃ (kk : Int) (x y : ByteArray), ∀ wx, Below w.heap.size w wx → Calls Tryd.prog 28 #[.string (str l), .int .i64 base, .int .i64 bits] wx fun e w' => e = .returned (.tuple #[.int .i64 vI, .agg #[.int .i64 kk, .string x, .string y]]) ∧ Below wx.heap.size wx w' by
        rcases hcode with rfl | rfl | rfl
        · exact ⟨0, str [], str [], P⟩
        · exact ⟨2, str piText, str l, P⟩
        · exact ⟨1, str piText, str l, P⟩)
      obtain ⟨kk, x, y, PQ⟩ := PP.out
      have PQ := Lib.hid PQ
      clear P hag hcode hvI hb hb0 hb64 PP
      obtain ⟨aI, haI⟩ : ∃ aI : Int, aI = a := ⟨_, rfl⟩
      obtain ⟨kI, hkI⟩ : ∃ kI : Int, kI = (kd : Int) := ⟨_, rfl⟩
      rw [← haI, ← hkI] at S
      clear haI hkI
      go_enter Tryd.func12, Tryd.ntmps12
      go_wp2_with (first
        | (go_at_call 22; refine AK.out.mono ?_; rintro e w1 ⟨rfl, rfl⟩)
        | (go_at_call 27; refine S.out.mono ?_; rintro e w2 ⟨rfl, hw2⟩)
        | (go_at_call 28; refine (PQ.out w2 hw2).mono ?_; rintro e w3 ⟨rfl, hw3⟩))
      go_ret
      exact ⟨rfl, (hw2.trans (hw3.mono hw2.size)).trans ((Below.refl _ _).alloc (Nat.le_trans hw2.size hw3.size) _)⟩
end Go.Proofs.YtjjocdhgjbhnhaaDoor.fnParseInt
