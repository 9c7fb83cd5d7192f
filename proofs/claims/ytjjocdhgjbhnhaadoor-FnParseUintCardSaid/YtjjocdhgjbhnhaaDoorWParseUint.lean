/-
  The walk of laws.FnParseUint: it returns true.
-/
import Derived.Test.YtjjocdhgjbhnhaaDoorSpecParseU
import Derived.Test.YtjjocdhgjbhnhaaDoorParse
import Derived.Test.YtjjocdhgjbhnhaaDoorTells
namespace Go.Proofs.YtjjocdhgjbhnhaaDoor.fnParseUint
open Go.RowKit
set_option maxRecDepth 100000
set_option linter.unusedVariables false
theorem wf_i64' {x : Int} (h : (Lit.int .i64 x).wf = true) : -9223372036854775808 ≤ x ∧ x ≤ 9223372036854775807 := by simpa [Lit.wf, IntKind.min, IntKind.max, IntKind.signed, IntKind.bits] using h
/-- where the reference tells, the library answers so -/
theorem agreed (l : List UInt8) (base bits : Int) (hb : base = 0 ∨ 2 ≤ base ∧ base ≤ 36) (hop : (uSpec (specRead l base.toNat) (!l.isEmpty) (2 ^ bitsN bits.toNat - 1)).2.2 = false) :
    ∃ v k : Nat, pUe l base.toNat bits.toNat = (v, k) ∧ ((k = 0 ∧ (uSpec (specRead l base.toNat) (!l.isEmpty) (2 ^ bitsN bits.toNat - 1)).2.1 = 0) ∨ (k = 1 ∧ (uSpec (specRead l base.toNat) (!l.isEmpty) (2 ^ bitsN bits.toNat - 1)).2.1 = 2) ∨ (k = 2 ∧ (uSpec (specRead l base.toNat) (!l.isEmpty) (2 ^ bitsN bits.toNat - 1)).2.1 = 1)) ∧ (uSpec (specRead l base.toNat) (!l.isEmpty) (2 ^ bitsN bits.toNat - 1)).1 = v := by
  have hA := agree l base.toNat bits.toNat (by omega)
  rw [show (if bits.toNat = 0 then 64 else bits.toNat) = bitsN bits.toNat from rfl] at hA
  generalize 2 ^ bitsN bits.toNat - 1 = mx at *
  generalize specRead l base.toNat = r at *
  obtain ⟨g, o, v⟩ := r
  simp only at hA
  unfold uSpec at hop ⊢
  simp only at hop ⊢
  cases g
  · simp only [if_true] at hop ⊢ hA
    by_cases hl : l = []
    · have := hA (fun h => absurd hl h) (fun _ h => absurd hl h)
      exact ⟨0, 2, this, by simp, rfl⟩
    · have hne : (!l.isEmpty) = true := by simpa using hl
      rw [hne] at hop
      simp only [Bool.true_and, Bool.or_eq_false_iff, decide_eq_false_iff_not] at hop
      have := hA (fun _ => hop.1) (fun _ _ => by omega)
      exact ⟨0, 2, this, by simp, rfl⟩
  · simp only [Bool.true_eq_false, if_false] at hop ⊢ hA
    by_cases hm : mx < v
    · rw [if_pos hm] at hop ⊢
      have := hA (fun _ => hop) (fun h => by cases h)
      rw [if_pos hm] at this
      exact ⟨mx, 1, this, .inr (.inl ⟨rfl, rfl⟩), rfl⟩
    · rw [if_neg hm] at hop ⊢
      have := hA (fun _ => hop) (fun h => by cases h)
      rw [if_neg hm] at this
      exact ⟨v, 0, this, .inl ⟨rfl, rfl⟩, rfl⟩
set_option maxHeartbeats 4000000 in
theorem walk (w : World) (s : ByteArray) (hs : s.size ≤ 140737488351232) (base : Int) (hbase : (Lit.int .i64 base).wf = true) (bits : Int) (hbits : (Lit.int .i64 bits).wf = true) (hL : laidMetH Tryd.prog Rows.fnParseUintRow.laid w) :
    Calls Tryd.prog 7 #[.string s, .int .i64 base, .int .i64 bits] w fun e w' => e = .returned (.bool true) ∧ Below w.heap.size w w' := by
  obtain ⟨aS, aR, hE⟩ := errT_of hL (by kernel_rfl) (by simp [Rows.fnParseUintRow, Rows.laid_strconv_ErrSyntax, synText]) (by simp [Rows.fnParseUintRow, Rows.laid_strconv_ErrRange, rngText])
  obtain ⟨l, rfl⟩ : ∃ l, s = str l := ⟨s.data.toList, (str_toList s).symm⟩
  rw [size_str] at hs
  have AK := Lib.hid (asked_any base bits w)
  clear hL
  cases hask : askedB base bits
  · rw [hask] at AK
    clear hE hask
    go_enter Tryd.func7, Tryd.ntmps7
    go_wp2_with (go_at_call 22; refine AK.out.mono ?_; rintro e w1 ⟨rfl, rfl⟩)
    go_ret
    exact ⟨rfl, Below.refl _ _⟩
  · rw [hask] at AK
    obtain ⟨hb, hb0, hb64⟩ := askedB_iff.1 hask
    have S := Lib.hid (specParseUint_any l base bits w hb hb0 hb64 hs)
    have P := fun wx (hbx : Below w.heap.size w wx) => ParseUint_any l base bits wx hb hb0 hb64 (by omega) aS aR (hE.below hbx)
    have hag := agreed l base bits hb
    have hcode := pUe_code l base.toNat bits.toNat
    obtain ⟨U, hU⟩ : ∃ U, U = uSpec (specRead l base.toNat) (!l.isEmpty) (2 ^ bitsN bits.toNat - 1) := ⟨_, rfl⟩
    rw [← hU] at S hag
    obtain ⟨q, hq⟩ : ∃ q, q = pUe l base.toNat bits.toNat := ⟨_, rfl⟩
    rw [← hq] at P hag hcode
    obtain ⟨v, k⟩ := q
    obtain ⟨a, kd, op⟩ := U
    simp only at P hag hcode S
    clear hU hq hask hE
    obtain ⟨vI, hvI⟩ : ∃ vI : Int, vI = (v : Int) := ⟨_, rfl⟩
    rw [← hvI] at P
    have e1 : (str l).toList = l := by rw [Lib.toList_data]; rfl
    cases op
    · obtain ⟨v', k', h1, h2, h3⟩ := hag rfl
      obtain ⟨rfl, rfl⟩ := Prod.mk.inj h1
      subst h3
      rw [← hvI] at S
      rcases h2 with ⟨rfl, rfl⟩ | ⟨rfl, rfl⟩ | ⟨rfl, rfl⟩
      · have PP := Lib.hid (show ∀ wx, Below w.heap.size w wx → Calls Tryd.prog 21 #[.string (str l), .int .i64 base, .int .i64 bits] wx fun e w' => e = .returned (.tuple #[.int .u64 vI, .agg #[.int .i64 0, .string (str []), .string (str [])]]) ∧ Below wx.heap.size wx w' from P)
        have TT := Lib.hid fun wx => tells_fits 0 (str []) (str []) (str puText) (str l) wx
        clear P hag hcode hvI h1 hb hb0 hb64
        go_enter Tryd.func7, Tryd.ntmps7
        go_wp2_with (first
          | (go_at_call 22; refine AK.out.mono ?_; rintro e w1 ⟨rfl, rfl⟩)
          | (go_at_call 23; refine S.out.mono ?_; rintro e w2 ⟨rfl, hw2⟩)
          | (go_at_call 21; refine (PP.out w2 hw2).mono ?_; rintro e w3 ⟨rfl, hw3⟩)
          | (go_at_call 17; refine (TT.out _).mono ?_; rintro e w4 ⟨rfl, hw4⟩))
        go_ret
        exact ⟨rfl, (((hw2.trans (hw3.mono hw2.size)).trans ((Below.refl _ _).alloc (Nat.le_trans hw2.size hw3.size) _))).trans (hw4.mono (by have := hw2.size; have := hw3.size; simp; omega))⟩
      · have PP := Lib.hid (show ∀ wx, Below w.heap.size w wx → Calls Tryd.prog 21 #[.string (str l), .int .i64 base, .int .i64 bits] wx fun e w' => e = .returned (.tuple #[.int .u64 vI, .agg #[.int .i64 2, .string (str puText), .string (str l)]]) ∧ Below wx.heap.size wx w' from P)
        have TT := Lib.hid fun wx => tells_same 2 rfl puText l wx
        clear P hag hcode hvI h1 hb hb0 hb64
        go_enter Tryd.func7, Tryd.ntmps7
        go_wp2_with (first
          | (go_at_call 22; refine AK.out.mono ?_; rintro e w1 ⟨rfl, rfl⟩)
          | (go_at_call 23; refine S.out.mono ?_; rintro e w2 ⟨rfl, hw2⟩)
          | (go_at_call 21; refine (PP.out w2 hw2).mono ?_; rintro e w3 ⟨rfl, hw3⟩)
          | (go_at_call 17; refine (TT.out _).mono ?_; rintro e w4 ⟨rfl, hw4⟩))
        go_ret
        exact ⟨rfl, (((hw2.trans (hw3.mono hw2.size)).trans ((Below.refl _ _).alloc (Nat.le_trans hw2.size hw3.size) _))).trans (hw4.mono (by have := hw2.size; have := hw3.size; simp; omega))⟩
      · have PP := Lib.hid (show ∀ wx, Below w.heap.size w wx → Calls Tryd.prog 21 #[.string (str l), .int .i64 base, .int .i64 bits] wx fun e w' => e = .returned (.tuple #[.int .u64 vI, .agg #[.int .i64 1, .string (str puText), .string (str l)]]) ∧ Below wx.heap.size wx w' from P)
        have TT := Lib.hid fun wx => tells_same 1 rfl puText l wx
        clear P hag hcode hvI h1 hb hb0 hb64
        go_enter Tryd.func7, Tryd.ntmps7
        go_wp2_with (first
          | (go_at_call 22; refine AK.out.mono ?_; rintro e w1 ⟨rfl, rfl⟩)
          | (go_at_call 23; refine S.out.mono ?_; rintro e w2 ⟨rfl, hw2⟩)
          | (go_at_call 21; refine (PP.out w2 hw2).mono ?_; rintro e w3 ⟨rfl, hw3⟩)
          | (go_at_call 17; refine (TT.out _).mono ?_; rintro e w4 ⟨rfl, hw4⟩))
        go_ret
        exact ⟨rfl, (((hw2.trans (hw3.mono hw2.size)).trans ((Below.refl _ _).alloc (Nat.le_trans hw2.size hw3.size) _))).trans (hw4.mono (by have := hw2.size; have := hw3.size; simp; omega))⟩
    · have PP := Lib.hid (show ∃ (kk : Int) (x y : ByteArray), ∀ wx, Below w.heap.size w wx → Calls Tryd.prog 21 #[.string (str l), .int .i64 base, .int .i64 bits] wx fun e w' => e = .returned (.tuple #[.int .u64 vI, .agg #[.int .i64 kk, .string x, .string y]]) ∧ Below wx.heap.size wx w' by
        rcases hcode with rfl | rfl | rfl
        · exact ⟨0, str [], str [], P⟩
        · exact ⟨2, str puText, str l, P⟩
        · exact ⟨1, str puText, str l, P⟩)
      obtain ⟨kk, x, y, PQ⟩ := PP.out
      have PQ := Lib.hid PQ
      clear P hag hcode hvI hb hb0 hb64 PP
      obtain ⟨aI, haI⟩ : ∃ aI : Int, aI = (a : Int) := ⟨_, rfl⟩
      obtain ⟨kI, hkI⟩ : ∃ kI : Int, kI = (kd : Int) := ⟨_, rfl⟩
      rw [← haI, ← hkI] at S
      clear haI hkI
      go_enter Tryd.func7, Tryd.ntmps7
      go_wp2_with (first
        | (go_at_call 22; refine AK.out.mono ?_; rintro e w1 ⟨rfl, rfl⟩)
        | (go_at_call 23; refine S.out.mono ?_; rintro e w2 ⟨rfl, hw2⟩)
        | (go_at_call 21; refine (PQ.out w2 hw2).mono ?_; rintro e w3 ⟨rfl, hw3⟩))
      go_ret
      exact ⟨rfl, (hw2.trans (hw3.mono hw2.size)).trans ((Below.refl _ _).alloc (Nat.le_trans hw2.size hw3.size) _)⟩
end Go.Proofs.YtjjocdhgjbhnhaaDoor.fnParseUint
