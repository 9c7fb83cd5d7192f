/-
  The walk of laws.FnUnsigned: it returns true.
-/
import Derived.Test.YtlnokggbejfocaaDoorAgreeI
import Derived.Test.YtlnokggbejfocaaDoorPlainFive
import Derived.Test.YtlnokggbejfocaaDoorParse
import Derived.Outline
namespace Go.Proofs.YtlnokggbejfocaaDoor.fnUnsigned
open Go.RowKit
set_option maxRecDepth 100000
set_option linter.unusedVariables false
set_option linter.unusedSimpArgs false
/-- a text with a sign is no number without one -/
theorem signedU {l : List UInt8} {base bits : Nat} (hb : base = 0 ∨ 2 ≤ base ∧ base ≤ 36) (hs : hasSign l = true) : pUe l base bits = (0, 2) := by
  obtain ⟨g, o, v⟩ := read_signed (l := l) hb (by simpa [hasSign] using hs)
  rw [agree l base bits hb (fun _ => o) (fun _ _ => by rw [v]; exact Nat.zero_le _), g, if_pos rfl]
/-- a text without a sign that fits -/
theorem same {l : List UInt8} {base bits : Nat} (hb : base = 0 ∨ 2 ≤ base ∧ base ≤ 36) (h1 : bits ≠ 1) (hs : hasSign l = false)
    (hk : (iSpec (specRead (noSign l) base) (!l.isEmpty) (isMinus l) (mostN bits (isMinus l))).2.1 = 0) (ho : (iSpec (specRead (noSign l) base) (!l.isEmpty) (isMinus l) (mostN bits (isMinus l))).2.2 = false) :
    0 ≤ (iSpec (specRead (noSign l) base) (!l.isEmpty) (isMinus l) (mostN bits (isMinus l))).1 ∧ ∃ v : Nat, pUe l base bits = (v, 0) ∧ (iSpec (specRead (noSign l) base) (!l.isEmpty) (isMinus l) (mostN bits (isMinus l))).1 = v := by
  have hn : ¬ (l[0]? = some 45 ∨ l[0]? = some 43) := by simpa [hasSign] using hs
  have e1 : noSign l = l := by rw [noSign, if_neg hn]
  have e2 : isMinus l = false := by rw [isMinus]; simp; intro h; exact hn (.inl h)
  have hA := agree l base bits hb
  have hp1 := pow_split (B := bitsN bits) (by rw [bitsN]; split <;> omega)
  rw [show (if bits = 0 then 64 else bits) = bitsN bits from rfl] at hA
  rw [e1, e2, mostN] at hk ho ⊢
  simp only [Bool.false_eq_true, if_false] at hk ho ⊢
  generalize 2 ^ bitsN bits = M at *
  generalize 2 ^ (bitsN bits - 1) = H at *
  generalize specRead l base = r at *
  obtain ⟨g, o, v⟩ := r
  unfold iSpec at hk ho ⊢
  simp only at hk ho hA ⊢
  cases g
  · simp at hk
  · simp only [Bool.true_eq_false, Bool.false_eq_true, if_false] at hk ho hA ⊢
    by_cases hv : H - 1 < v
    · rw [if_pos hv] at hk; simp at hk
    · rw [if_neg hv] at ho ⊢
      have := hA (fun _ => ho) (fun h => by cases h)
      rw [if_neg (by omega)] at this
      exact ⟨by simp only; omega, v, this, rfl⟩
set_option maxHeartbeats 8000000 in
theorem walk (w : World) (s : ByteArray) (hs : s.size ≤ 140737488351232) (base : Int) (hbase : (Lit.int .i64 base).wf = true) (bits : Int) (hbits : (Lit.int .i64 bits).wf = true) (hL : laidMetH Tryd.prog Rows.fnUnsignedRow.laid w) :
    Calls Tryd.prog 6 #[.string s, .int .i64 base, .int .i64 bits] w fun e w' => e = .returned (.bool true) ∧ Below w.heap.size w w' := by
  obtain ⟨aS, aR, hE⟩ := errT_of hL (by kernel_rfl) (by simp [Rows.fnUnsignedRow, Rows.laid_strconv_ErrSyntax, synText]) (by simp [Rows.fnUnsignedRow, Rows.laid_strconv_ErrRange, rngText])
  obtain ⟨l, rfl⟩ : ∃ l, s = str l := ⟨s.data.toList, (str_toList s).symm⟩
  rw [size_str] at hs
  have AK := Lib.hid (asked_any base bits w)
  clear hL
  cases hask : askedB base bits
  · rw [hask] at AK
    clear hE hask
    go_enter Tryd.func6, Tryd.ntmps6
    go_wp2_with (go_at_call 10; refine AK.out.mono ?_; rintro e w0 ⟨rfl, rfl⟩)
    all_goals first | (exfalso; omega) | skip
    go_ret
    exact ⟨rfl, Below.refl _ _⟩
  rw [hask] at AK
  obtain ⟨hb, hb0, hb64⟩ := askedB_iff.1 hask
  by_cases hone : bits = 1
  · subst hone
    clear hE hask hb
    go_enter Tryd.func6, Tryd.ntmps6
    go_wp2_with (go_at_call 10; refine AK.out.mono ?_; rintro e w0 ⟨rfl, rfl⟩)
    all_goals first | (exfalso; omega) | skip
    go_ret
    exact ⟨rfl, Below.refl _ _⟩
  have q1 : (bits == 1) = false := by simpa using hone
  by_cases hl : l = []
  · have hem : (str l).toList.isEmpty = true := by rw [Lib.toList_data, hl]; rfl
    clear hE hask hb hone hl
    go_enter Tryd.func6, Tryd.ntmps6
    go_wp2_with (go_at_call 10; refine AK.out.mono ?_; rintro e w0 ⟨rfl, rfl⟩)
    all_goals first | (exfalso; omega) | skip
    go_ret
    exact ⟨rfl, Below.refl _ _⟩
  have hem : (str l).toList.isEmpty = false := by rw [Lib.toList_data]; simpa [str] using hl
  have SS := Lib.hid (signed_any l w)
  have SA := fun wx => specParseInt_any l base bits wx hb hb0 hb64 hs
  have SUC := fun wx => specParseUint_any l base bits wx hb hb0 hb64 hs
  have P := fun wx (hbx : Below w.heap.size w wx) => ParseInt_any l base bits wx hb hb0 hb64 (by omega) aS aR (hE.below hbx)
  have PUC := fun wx (hbx : Below w.heap.size w wx) => ParseUint_any l base bits wx hb hb0 hb64 (by omega) aS aR (hE.below hbx)
  have hag := agreedI l base.toNat bits.toNat (by omega) (by omega)
  have hsm := same (l := l) (base := base.toNat) (bits := bits.toNat) (by omega) (by omega)
  have hsu := signedU (l := l) (base := base.toNat) (bits := bits.toNat) (by omega)
  have hcodeU := pUe_code l base.toNat bits.toNat
  generalize iSpec (specRead (noSign l) base.toNat) (!l.isEmpty) (isMinus l) (mostN bits.toNat (isMinus l)) = U at *
  obtain ⟨v, k, o⟩ := U
  simp only at SA hag hsm
  obtain ⟨kI, hkI⟩ : ∃ kI : Int, kI = (k : Int) := ⟨_, rfl⟩
  rw [← hkI] at SA
  have SA := Lib.hid SA
  obtain ⟨m, hm⟩ : ∃ m, m = noSign l := ⟨_, rfl⟩
  obtain ⟨mn, hmn⟩ : ∃ x, x = isMinus l := ⟨_, rfl⟩
  rw [← hm, ← hmn] at SS
  cases o
  rotate_left
  · obtain ⟨sg, hsg⟩ : ∃ x, x = hasSign l := ⟨_, rfl⟩
    rw [← hsg] at SS
    clear hE hask hb hone hl SUC P PUC hag hsm hsu hcodeU hkI hm hmn hsg
    go_enter Tryd.func6, Tryd.ntmps6
    go_wp2_with (first | (go_at_call 10; refine AK.out.mono ?_; rintro e w0 ⟨rfl, rfl⟩) | (go_at_call 17; refine SS.out.mono ?_; rintro e w1 ⟨rfl, hw1⟩) | (go_at_call 18; refine (SA.out w1).mono ?_; rintro e w2 ⟨rfl, hw2⟩; have hb2 := hw1.trans (hw2.mono hw1.size)))
    all_goals first | (exfalso; omega) | skip
    go_ret
    exact ⟨rfl, hb2⟩
  cases hsg : hasSign l
  rotate_left
  · rw [hsg] at SS
    rw [hsu hsg] at PUC
    have PU2 := Lib.hid (show ∀ wx, Below w.heap.size w wx → Calls Tryd.prog 12 #[.string (str l), .int .i64 base, .int .i64 bits] wx fun e w' => e = .returned (.tuple #[.int .u64 0, .agg #[.int .i64 1, .string (str puText), .string (str l)]]) ∧ Below wx.heap.size wx w' from PUC)
    generalize uSpec (specRead l base.toNat) (!l.isEmpty) (2 ^ bitsN bits.toNat - 1) = V at *
    obtain ⟨a, ka, oa⟩ := V
    simp only at SUC
    obtain ⟨aI, haI⟩ : ∃ aI : Int, aI = (a : Int) := ⟨_, rfl⟩
    obtain ⟨kaI, hkaI⟩ : ∃ aI : Int, aI = (ka : Int) := ⟨_, rfl⟩
    rw [← haI, ← hkaI] at SUC
    have SU2 := Lib.hid SUC
    clear hE hask hb hone hl SUC P PUC hag hsm hsu hcodeU hkI hm hmn haI hkaI hsg
    cases oa
    all_goals
      go_enter Tryd.func6, Tryd.ntmps6
      go_wp2_with (first
        | (go_at_call 10; refine AK.out.mono ?_; rintro e w0 ⟨rfl, rfl⟩) | (go_at_call 17; refine SS.out.mono ?_; rintro e w1 ⟨rfl, hw1⟩) | (go_at_call 18; refine (SA.out w1).mono ?_; rintro e w2 ⟨rfl, hw2⟩; have hb2 := hw1.trans (hw2.mono hw1.size))
        | (go_at_call 12; refine (PU2.out w2 hb2).mono ?_; rintro e w3 ⟨rfl, hw3⟩; have hb3 := hb2.trans (hw3.mono hb2.size))
        | (go_at_call 19; refine (SU2.out _).mono ?_; rintro e w4 ⟨rfl, hw4⟩; have hb4 := (hb3.trans ((Below.refl _ _).alloc hb3.size _)).trans (hw4.mono (Nat.le_trans hb3.size (by simp))); obtain ⟨hc4, hf4⟩ := bcell2 hw4))
      all_goals first | (exfalso; omega) | skip
      go_ret
      exact ⟨by simp, hb4⟩
  · rw [hsg] at SS
    obtain ⟨v', k', hp, hkk, hv⟩ := hag rfl
    subst hv
    rw [hp] at P
    by_cases hk0 : k = 0
    · obtain ⟨hv0, u, hu, hvu⟩ := hsm hsg hk0 rfl
      obtain rfl : k' = 0 := by omega
      obtain rfl : kI = 0 := by omega
      rw [hu] at PUC
      have hle := pUe_le l base.toNat bits.toNat
      have hu64 : (u : Int) ≤ 18446744073709551615 := by
        have h2 : 2 ^ (if bits.toNat = 0 then 64 else bits.toNat) ≤ 2 ^ 64 := Nat.pow_le_pow_right (by omega) (by split <;> omega)
        rw [hu] at hle; simp only at hle; omega
      rw [← hvu] at hu64
      have P2 := Lib.hid (show ∀ wx, Below w.heap.size w wx → Calls Tryd.prog 11 #[.string (str l), .int .i64 base, .int .i64 bits] wx fun e w' => e = .returned (.tuple #[.int .i64 v, .agg #[.int .i64 0, .string (str []), .string (str [])]]) ∧ Below wx.heap.size wx w' from P)
      have PU2 := Lib.hid (show ∀ wx, Below w.heap.size w wx → Calls Tryd.prog 12 #[.string (str l), .int .i64 base, .int .i64 bits] wx fun e w' => e = .returned (.tuple #[.int .u64 v, .agg #[.int .i64 0, .string (str []), .string (str [])]]) ∧ Below wx.heap.size wx w' by rw [hvu]; exact PUC)
      clear hE hask hb hone hl SUC P PUC hsm hsu hcodeU hm hmn hkI hsg hkk hp hk0 hu hvu hle
      go_enter Tryd.func6, Tryd.ntmps6
      go_wp2_with (first
        | (go_at_call 10; refine AK.out.mono ?_; rintro e w0 ⟨rfl, rfl⟩) | (go_at_call 17; refine SS.out.mono ?_; rintro e w1 ⟨rfl, hw1⟩) | (go_at_call 18; refine (SA.out w1).mono ?_; rintro e w2 ⟨rfl, hw2⟩; have hb2 := hw1.trans (hw2.mono hw1.size))
        | (go_at_call 12; refine (PU2.out w2 hb2).mono ?_; rintro e w3 ⟨rfl, hw3⟩; have hb3 := hb2.trans (hw3.mono hb2.size))
        | (go_at_call 11; refine (P2.out _ (hb3.trans ((Below.refl _ _).alloc hb3.size _))).mono ?_; rintro e w4 ⟨rfl, hw4⟩; have hb4 := (hb3.trans ((Below.refl _ _).alloc hb3.size _)).trans (hw4.mono (Nat.le_trans hb3.size (by simp))); obtain ⟨hc4, hf4⟩ := bcell2 hw4; have hs4 : w3.heap.size < w4.heap.size := Nat.lt_of_lt_of_le (by simp) hw4.size))
      all_goals first | (exfalso; omega) | skip
      go_ret
      exact ⟨by simp, hb4.trans ((Below.refl _ _).alloc hb4.size _)⟩
    · have q2 : (kI == 0) = false := by simp; omega
      have q3 : ¬ kI = 0 := by omega
      have q4 : (kI != 0) = true := by simp; omega
      obtain ⟨xa, ya, P2⟩ : ∃ x y : ByteArray, ∀ wx, Below w.heap.size w wx → Calls Tryd.prog 11 #[.string (str l), .int .i64 base, .int .i64 bits] wx fun e w' => e = .returned (.tuple #[.int .i64 v, .agg #[.int .i64 kI, .string x, .string y]]) ∧ Below wx.heap.size wx w' := by
        rw [hkI]
        rcases hkk with ⟨h, h'⟩ | ⟨rfl, h⟩ | ⟨rfl, h⟩
        · exact absurd h' hk0
        · rw [h]; exact ⟨str piText, str l, P⟩
        · rw [h]; exact ⟨str piText, str l, P⟩
      have P2 := Lib.hid P2
      generalize pUe l base.toNat bits.toNat = q at *
      obtain ⟨uv, uk⟩ := q
      obtain ⟨uI, huI⟩ : ∃ x : Int, x = (uv : Int) := ⟨_, rfl⟩
      simp only at PUC hcodeU
      rw [← huI] at PUC
      obtain ⟨kk, xb, yb, PU2⟩ : ∃ (k : Int) (x y : ByteArray), ∀ wx, Below w.heap.size w wx → Calls Tryd.prog 12 #[.string (str l), .int .i64 base, .int .i64 bits] wx fun e w' => e = .returned (.tuple #[.int .u64 uI, .agg #[.int .i64 k, .string x, .string y]]) ∧ Below wx.heap.size wx w' := by
        rcases hcodeU with rfl | rfl | rfl
        · exact ⟨0, str [], str [], PUC⟩
        · exact ⟨2, str puText, str l, PUC⟩
        · exact ⟨1, str puText, str l, PUC⟩
      have PU2 := Lib.hid PU2
      clear hE hask hb hone hl SUC P PUC hsm hsu hcodeU hm hmn hkI hsg hkk hp hk0 huI
      go_enter Tryd.func6, Tryd.ntmps6
      go_wp2_with (first
        | (go_at_call 10; refine AK.out.mono ?_; rintro e w0 ⟨rfl, rfl⟩) | (go_at_call 17; refine SS.out.mono ?_; rintro e w1 ⟨rfl, hw1⟩) | (go_at_call 18; refine (SA.out w1).mono ?_; rintro e w2 ⟨rfl, hw2⟩; have hb2 := hw1.trans (hw2.mono hw1.size))
        | (go_at_call 12; refine (PU2.out w2 hb2).mono ?_; rintro e w3 ⟨rfl, hw3⟩; have hb3 := hb2.trans (hw3.mono hb2.size))
        | (go_at_call 11; refine (P2.out _ (hb3.trans ((Below.refl _ _).alloc hb3.size _))).mono ?_; rintro e w4 ⟨rfl, hw4⟩; have hb4 := (hb3.trans ((Below.refl _ _).alloc hb3.size _)).trans (hw4.mono (Nat.le_trans hb3.size (by simp))); obtain ⟨hc4, hf4⟩ := bcell2 hw4; have hs4 : w3.heap.size < w4.heap.size := Nat.lt_of_lt_of_le (by simp) hw4.size))
      all_goals first | (exfalso; omega) | skip
      go_ret
      exact ⟨by simp, hb4.trans ((Below.refl _ _).alloc hb4.size _)⟩
end Go.Proofs.YtlnokggbejfocaaDoor.fnUnsigned
