/-
  The walk of laws.FnBits: it returns true.
-/
import Derived.Test.YtjjocdhgjbhnhaaDoorAgreeI
import Derived.Test.YtjjocdhgjbhnhaaDoorParse
namespace Go.Proofs.YtjjocdhgjbhnhaaDoor.fnBits
open Go.RowKit
set_option maxRecDepth 100000
set_option linter.unusedVariables false
set_option linter.unusedSimpArgs false
theorem wf_i64' {x : Int} (h : (Lit.int .i64 x).wf = true) : -9223372036854775808 ≤ x ∧ x ≤ 9223372036854775807 := by simpa [Lit.wf, IntKind.min, IntKind.max, IntKind.signed, IntKind.bits] using h
/-- what the reference says, in short -/
def iS (l : List UInt8) (base bits : Nat) : Int × Nat × Bool := iSpec (specRead (noSign l) base) (!l.isEmpty) (isMinus l) (mostN bits (isMinus l))
/-- what the library answers at three sizes, where the reference tells at each of them -/
theorem sizes (l : List UInt8) (base bits more : Nat) (hb : base = 0 ∨ 2 ≤ base ∧ base ≤ 36) (h2 : 2 ≤ bits) (hm : bits ≤ more) (h64 : more ≤ 64)
    (o1 : (iS l base 64).2.2 = false) (o2 : (iS l base bits).2.2 = false) (o3 : (iS l base more).2.2 = false) (hk : (iS l base 64).2.1 ≠ 1) :
    ∃ (n m a : Int) (kf kg kh : Nat), pIe l base bits = (n, kf) ∧ pIe l base more = (m, kg) ∧ pIe l base 64 = (a, kh) ∧ (iS l base 64).1 = a ∧ ((kh = 0 ∧ (iS l base 64).2.1 = 0) ∨ (kh = 1 ∧ (iS l base 64).2.1 = 2)) ∧ (kg = 0 ∨ kg = 1) ∧
      ((kf = 0 ∧ kg = 0 ∧ m = n ∧ a = n) ∨ (kf = 1 ∧ n = (2 ^ (bits - 1) : Nat) - 1 ∧ n ≤ m ∧ m ≤ a) ∨ (kf = 1 ∧ n = -((2 ^ (bits - 1) : Nat) : Int) ∧ m ≤ n ∧ a ≤ m)) := by
  obtain ⟨a, kh, pa, ra, va⟩ := agreedI l base 64 hb (by omega) o1
  obtain ⟨n, kf, pn, rn, vn⟩ := agreedI l base bits hb (by omega) o2
  obtain ⟨m, kg, pm, rm, vm⟩ := agreedI l base more hb (by omega) o3
  have p1 : 2 ^ (bits - 1) ≤ 2 ^ (more - 1) := Nat.pow_le_pow_right (by omega) (by omega)
  have p2 : 2 ^ (more - 1) ≤ 2 ^ (64 - 1) := Nat.pow_le_pow_right (by omega) (by omega)
  have p0 : 1 ≤ 2 ^ (bits - 1) := Nat.one_le_two_pow
  have m1 : mostN bits (isMinus l) = if isMinus l = true then 2 ^ (bits - 1) else 2 ^ (bits - 1) - 1 := by rw [mostN, bitsN, if_neg (show ¬ bits = 0 by omega)]
  have m2 : mostN more (isMinus l) = if isMinus l = true then 2 ^ (more - 1) else 2 ^ (more - 1) - 1 := by rw [mostN, bitsN, if_neg (show ¬ more = 0 by omega)]
  have m3 : mostN 64 (isMinus l) = if isMinus l = true then 2 ^ (64 - 1) else 2 ^ (64 - 1) - 1 := by rw [mostN, bitsN, if_neg (show ¬ (64 : Nat) = 0 by omega)]
  rw [m1] at rn vn
  rw [m2] at rm vm
  rw [m3] at ra va
  rw [iS, m3] at hk ⊢
  generalize 2 ^ (bits - 1) = H1 at *
  generalize 2 ^ (more - 1) = H2 at *
  generalize 2 ^ (64 - 1) = H3 at *
  generalize specRead (noSign l) base = r at *
  generalize isMinus l = mn at *
  generalize (!l.isEmpty) = ne at *
  obtain ⟨g, o, v⟩ := r
  unfold iSpec at *
  simp only at *
  refine ⟨n, m, a, kf, kg, kh, pn, pm, pa, va, ?_⟩
  cases g
  · simp at hk
  · simp only [Bool.true_eq_false, if_false] at *
    cases mn
    · simp only [Bool.false_eq_true, if_false] at *
      by_cases c1 : H1 - 1 < v
      · rw [if_pos c1] at rn vn
        by_cases c2 : H2 - 1 < v
        · rw [if_pos c2] at rm vm
          by_cases c3 : H3 - 1 < v
          · rw [if_pos c3] at ra va
            simp only at rn vn rm vm ra va ⊢
            rw [if_pos c3]
            simp at rn rm ra
            exact ⟨by simpa using ra, by omega, by omega⟩
          · rw [if_neg c3] at ra va
            simp only at rn vn rm vm ra va ⊢
            rw [if_neg c3]
            simp at rn rm ra
            exact ⟨by simpa using ra, by omega, by omega⟩
        · rw [if_neg c2] at rm vm
          rw [if_neg (by omega)] at ra va
          simp only at rn vn rm vm ra va ⊢
          rw [if_neg (by omega)]
          simp at rn rm ra
          exact ⟨by simpa using ra, by omega, by omega⟩
      · rw [if_neg c1] at rn vn
        rw [if_neg (by omega)] at rm vm
        rw [if_neg (by omega)] at ra va
        simp only at rn vn rm vm ra va ⊢
        rw [if_neg (by omega)]
        simp at rn rm ra
        exact ⟨by simpa using ra, by omega, by omega⟩
    · simp only [if_true] at *
      by_cases c1 : H1 < v
      · rw [if_pos c1] at rn vn
        by_cases c2 : H2 < v
        · rw [if_pos c2] at rm vm
          by_cases c3 : H3 < v
          · rw [if_pos c3] at ra va
            simp only at rn vn rm vm ra va ⊢
            rw [if_pos c3]
            simp at rn rm ra
            exact ⟨by simpa using ra, by omega, by omega⟩
          · rw [if_neg c3] at ra va
            simp only at rn vn rm vm ra va ⊢
            rw [if_neg c3]
            simp at rn rm ra
            exact ⟨by simpa using ra, by omega, by omega⟩
        · rw [if_neg c2] at rm vm
          rw [if_neg (by omega)] at ra va
          simp only at rn vn rm vm ra va ⊢
          rw [if_neg (by omega)]
          simp at rn rm ra
          exact ⟨by simpa using ra, by omega, by omega⟩
      · rw [if_neg c1] at rn vn
        rw [if_neg (by omega)] at rm vm
        rw [if_neg (by omega)] at ra va
        simp only at rn vn rm vm ra va ⊢
        rw [if_neg (by omega)]
        simp at rn rm ra
        exact ⟨by simpa using ra, by omega, by omega⟩
set_option maxHeartbeats 8000000 in
theorem walk (w : World) (s : ByteArray) (hs : s.size ≤ 140737488351232) (base : Int) (hbase : (Lit.int .i64 base).wf = true) (bits : Int) (hbits : (Lit.int .i64 bits).wf = true) (more : Int) (hmore : (Lit.int .i64 more).wf = true) (hL : laidMetH Tryd.prog Rows.fnBitsRow.laid w) :
    Calls Tryd.prog 11 #[.string s, .int .i64 base, .int .i64 bits, .int .i64 more] w fun e w' => e = .returned (.bool true) ∧ Below w.heap.size w w' := by
  obtain ⟨aS, aR, hE⟩ := errT_of hL (by kernel_rfl) (by simp [Rows.fnBitsRow, Rows.laid_strconv_ErrSyntax, synText]) (by simp [Rows.fnBitsRow, Rows.laid_strconv_ErrRange, rngText])
  obtain ⟨l, rfl⟩ : ∃ l, s = str l := ⟨s.data.toList, (str_toList s).symm⟩
  rw [size_str] at hs
  have AK := Lib.hid (asked_any base bits w)
  clear hL
  cases hask : askedB base bits
  · rw [hask] at AK
    clear hE hask
    go_enter Tryd.func11, Tryd.ntmps11
    go_wp2_with (go_at_call 22; refine AK.out.mono ?_; rintro e w0 ⟨rfl, rfl⟩)
    all_goals first | (exfalso; omega) | skip
    go_ret
    exact ⟨rfl, Below.refl _ _⟩
  · rw [hask] at AK
    obtain ⟨hb, hb0, hb64⟩ := askedB_iff.1 hask
    by_cases h2 : bits < 2
    · skip
      clear hE hask hb
      go_enter Tryd.func11, Tryd.ntmps11
      go_wp2_with (go_at_call 22; refine AK.out.mono ?_; rintro e w0 ⟨rfl, rfl⟩)
      all_goals first | (exfalso; omega) | skip
      go_ret
      exact ⟨rfl, Below.refl _ _⟩
    by_cases h3 : more < bits
    · have h2' : 2 ≤ bits := by omega
      clear hE hask hb h2
      go_enter Tryd.func11, Tryd.ntmps11
      go_wp2_with (go_at_call 22; refine AK.out.mono ?_; rintro e w0 ⟨rfl, rfl⟩)
      all_goals first | (exfalso; omega) | skip
      go_ret
      exact ⟨rfl, Below.refl _ _⟩
    by_cases h4 : 64 < more
    · have h2' : 2 ≤ bits := by omega
      have h3' : bits ≤ more := by omega
      clear hE hask hb h2 h3
      go_enter Tryd.func11, Tryd.ntmps11
      go_wp2_with (go_at_call 22; refine AK.out.mono ?_; rintro e w0 ⟨rfl, rfl⟩)
      all_goals first | (exfalso; omega) | skip
      go_ret
      exact ⟨rfl, Below.refl _ _⟩
    have h2' : 2 ≤ bits := by omega
    have h3' : bits ≤ more := by omega
    have h4' : more ≤ 64 := by omega
    have SA := fun wx => specParseInt_any l base 64 wx hb (by omega) (by omega) hs
    have SB := fun wx => specParseInt_any l base bits wx hb (by omega) (by omega) hs
    have SC := fun wx => specParseInt_any l base more wx hb (by omega) (by omega) hs
    rw [show (64 : Int).toNat = 64 from rfl] at SA
    have PA := fun wx (hbx : Below w.heap.size w wx) => ParseInt_any l base 64 wx hb (by omega) (by omega) (by omega) aS aR (hE.below hbx)
    have PB := fun wx (hbx : Below w.heap.size w wx) => ParseInt_any l base bits wx hb (by omega) (by omega) (by omega) aS aR (hE.below hbx)
    have PC := fun wx (hbx : Below w.heap.size w wx) => ParseInt_any l base more wx hb (by omega) (by omega) (by omega) aS aR (hE.below hbx)
    rw [show (64 : Int).toNat = 64 from rfl] at PA
    have GG := fun wx => greatest_s bits (by omega) (by omega) wx
    rw [show bitsN bits.toNat = bits.toNat by rw [bitsN, if_neg (by omega)]] at GG
    have hZ := sizes l base.toNat bits.toNat more.toNat (by omega) (by omega) (by omega) (by omega)
    have hH := half_fin ⟨bits.toNat, by omega⟩ (by simp only; omega)
    simp only at hH
    unfold iS at hZ
    generalize iSpec (specRead (noSign l) base.toNat) (!l.isEmpty) (isMinus l) (mostN 64 (isMinus l)) = UA at *
    generalize iSpec (specRead (noSign l) base.toNat) (!l.isEmpty) (isMinus l) (mostN bits.toNat (isMinus l)) = UB at *
    generalize iSpec (specRead (noSign l) base.toNat) (!l.isEmpty) (isMinus l) (mostN more.toNat (isMinus l)) = UC at *
    obtain ⟨vA, kA, oA⟩ := UA
    obtain ⟨vB, kB, oB⟩ := UB
    obtain ⟨vC, kC, oC⟩ := UC
    simp only at SA SB SC hZ
    obtain ⟨kBI, hkBI⟩ : ∃ k : Int, k = (kB : Int) := ⟨_, rfl⟩
    obtain ⟨kCI, hkCI⟩ : ∃ k : Int, k = (kC : Int) := ⟨_, rfl⟩
    obtain ⟨kI, hkI⟩ : ∃ k : Int, k = (kA : Int) := ⟨_, rfl⟩
    rw [← hkI] at SA
    rw [← hkBI] at SB
    rw [← hkCI] at SC
    have SA := Lib.hid SA
    have SB := Lib.hid SB
    have SC := Lib.hid SC
    cases oA
    rotate_left
    · skip
      clear hE hask hb PA PB PC GG hZ hH hkI hkBI hkCI h2 h3 h4
      go_enter Tryd.func11, Tryd.ntmps11
      go_wp2_with (first | (go_at_call 22; refine AK.out.mono ?_; rintro e w0 ⟨rfl, rfl⟩) | (go_at_call 27; with_reducible refine (SA.out w).mono ?_; rintro e w1 ⟨rfl, hw1⟩; have tok1 : True := trivial) | (go_at_call 27; have _t := tok1; clear tok1; refine (SB.out w1).mono ?_; rintro e w2 ⟨rfl, hw2⟩; have hb2 := hw1.trans (hw2.mono hw1.size); have tok2 : True := trivial) | (go_at_call 27; have _t := tok2; clear tok2; refine (SC.out w2).mono ?_; rintro e w3 ⟨rfl, hw3⟩; have hb3 := hb2.trans (hw3.mono hb2.size); have tok3 : True := trivial))
      all_goals first | (exfalso; omega) | skip
      go_ret
      exact ⟨rfl, hb3⟩
    cases oB
    rotate_left
    · skip
      clear hE hask hb PA PB PC GG hZ hH hkI hkBI hkCI h2 h3 h4
      go_enter Tryd.func11, Tryd.ntmps11
      go_wp2_with (first | (go_at_call 22; refine AK.out.mono ?_; rintro e w0 ⟨rfl, rfl⟩) | (go_at_call 27; with_reducible refine (SA.out w).mono ?_; rintro e w1 ⟨rfl, hw1⟩; have tok1 : True := trivial) | (go_at_call 27; have _t := tok1; clear tok1; refine (SB.out w1).mono ?_; rintro e w2 ⟨rfl, hw2⟩; have hb2 := hw1.trans (hw2.mono hw1.size); have tok2 : True := trivial) | (go_at_call 27; have _t := tok2; clear tok2; refine (SC.out w2).mono ?_; rintro e w3 ⟨rfl, hw3⟩; have hb3 := hb2.trans (hw3.mono hb2.size); have tok3 : True := trivial))
      all_goals first | (exfalso; omega) | skip
      go_ret
      exact ⟨rfl, hb3⟩
    cases oC
    rotate_left
    · skip
      clear hE hask hb PA PB PC GG hZ hH hkI hkBI hkCI h2 h3 h4
      go_enter Tryd.func11, Tryd.ntmps11
      go_wp2_with (first | (go_at_call 22; refine AK.out.mono ?_; rintro e w0 ⟨rfl, rfl⟩) | (go_at_call 27; with_reducible refine (SA.out w).mono ?_; rintro e w1 ⟨rfl, hw1⟩; have tok1 : True := trivial) | (go_at_call 27; have _t := tok1; clear tok1; refine (SB.out w1).mono ?_; rintro e w2 ⟨rfl, hw2⟩; have hb2 := hw1.trans (hw2.mono hw1.size); have tok2 : True := trivial) | (go_at_call 27; have _t := tok2; clear tok2; refine (SC.out w2).mono ?_; rintro e w3 ⟨rfl, hw3⟩; have hb3 := hb2.trans (hw3.mono hb2.size); have tok3 : True := trivial))
      all_goals first | (exfalso; omega) | skip
      go_ret
      exact ⟨rfl, hb3⟩
    by_cases hk1 : kA = 1
    · have q1 : (kI == 1) = true := by simp; omega
      clear hk1
      clear hE hask hb PA PB PC GG hZ hH hkI hkBI hkCI h2 h3 h4
      go_enter Tryd.func11, Tryd.ntmps11
      go_wp2_with (first | (go_at_call 22; refine AK.out.mono ?_; rintro e w0 ⟨rfl, rfl⟩) | (go_at_call 27; with_reducible refine (SA.out w).mono ?_; rintro e w1 ⟨rfl, hw1⟩; have tok1 : True := trivial) | (go_at_call 27; have _t := tok1; clear tok1; refine (SB.out w1).mono ?_; rintro e w2 ⟨rfl, hw2⟩; have hb2 := hw1.trans (hw2.mono hw1.size); have tok2 : True := trivial) | (go_at_call 27; have _t := tok2; clear tok2; refine (SC.out w2).mono ?_; rintro e w3 ⟨rfl, hw3⟩; have hb3 := hb2.trans (hw3.mono hb2.size); have tok3 : True := trivial))
      all_goals first | (exfalso; omega) | skip
      go_ret
      exact ⟨rfl, hb3⟩
    have q1 : (kI == 1) = false := by simp; omega
    obtain ⟨n, m, a, kf, kg, kh, pn, pm, pa, va, hkh, hkg, hmain⟩ := hZ rfl rfl rfl hk1
    rw [pa] at PA
    rw [pn] at PB
    rw [pm] at PC
    subst va
    have PA2 : ∃ x y : ByteArray, ∀ wx, Below w.heap.size w wx → Calls Tryd.prog 28 #[.string (str l), .int .i64 base, .int .i64 64] wx fun e w' => e = .returned (.tuple #[.int .i64 vA, .agg #[.int .i64 kI, .string x, .string y]]) ∧ Below wx.heap.size wx w' := by
      rw [hkI]
      rcases hkh with ⟨rfl, h⟩ | ⟨rfl, h⟩
      · rw [h]; exact ⟨str [], str [], PA⟩
      · rw [h]; exact ⟨str piText, str l, PA⟩
    obtain ⟨xa, ya, PA2⟩ := PA2
    have PA2 := Lib.hid PA2
    obtain ⟨H, hHe⟩ : ∃ H, H = 2 ^ (bits.toNat - 1) := ⟨_, rfl⟩
    rw [← hHe] at GG hH hmain
    obtain ⟨y, hy⟩ : ∃ y : Int, y = (H : Int) - 1 := ⟨_, rfl⟩
    have y0 : 0 ≤ y := by have := hH.2.2.1; omega
    have y1 : y ≤ 9223372036854775807 := by have := hH.2.1; omega
    have G2 := Lib.hid (show ∀ wx, Calls Tryd.prog 26 #[.int .i64 bits, .bool true] wx fun e w' => e = .returned (.int .u64 y) ∧ wx = w' by rw [hy, show (H : Int) - 1 = ((H - 1 : Nat) : Int) by have := hH.2.2.1; omega]; exact GG)
    rcases hmain with ⟨rfl, rfl, hmn, han⟩ | ⟨rfl, hn, hnm, hma⟩ | ⟨rfl, hn, hnm, hma⟩
    · rw [hmn, ← han] at PC
      rw [← han] at PB
      have PB2 := Lib.hid (show ∀ wx, Below w.heap.size w wx → Calls Tryd.prog 28 #[.string (str l), .int .i64 base, .int .i64 bits] wx fun e w' => e = .returned (.tuple #[.int .i64 vA, .agg #[.int .i64 0, .string (str []), .string (str [])]]) ∧ Below wx.heap.size wx w' by exact PB)
      have PC2 := Lib.hid (show ∀ wx, Below w.heap.size w wx → Calls Tryd.prog 28 #[.string (str l), .int .i64 base, .int .i64 more] wx fun e w' => e = .returned (.tuple #[.int .i64 vA, .agg #[.int .i64 0, .string (str []), .string (str [])]]) ∧ Below wx.heap.size wx w' from PC)
      clear hE hask hb PA PB PC GG hZ hH hkI hkBI hkCI h2 h3 h4 pn pm pa hkh hkg hk1 hy hHe
      go_enter Tryd.func11, Tryd.ntmps11
      go_wp2_with (first
        | (go_at_call 22; refine AK.out.mono ?_; rintro e w0 ⟨rfl, rfl⟩)
        | (go_at_call 27; with_reducible refine (SA.out w).mono ?_; rintro e w1 ⟨rfl, hw1⟩; have tok1 : True := trivial) | (go_at_call 27; have _t := tok1; clear tok1; refine (SB.out w1).mono ?_; rintro e w2 ⟨rfl, hw2⟩; have hb2 := hw1.trans (hw2.mono hw1.size); have tok2 : True := trivial) | (go_at_call 27; have _t := tok2; clear tok2; refine (SC.out w2).mono ?_; rintro e w3 ⟨rfl, hw3⟩; have hb3 := hb2.trans (hw3.mono hb2.size); have tok3 : True := trivial)
        | (go_at_call 28; have _t := tok3; clear tok3; refine (PB2.out w3 hb3).mono ?_; rintro e w4 ⟨rfl, hw4⟩; have hb4 := hb3.trans (hw4.mono hb3.size); have tok4 : True := trivial)
        | (go_at_call 28; have _t := tok4; clear tok4; refine (PC2.out _ (hb4.trans ((Below.refl _ _).alloc hb4.size _))).mono ?_; rintro e w5 ⟨rfl, hw5⟩; have hb5 := (hb4.trans ((Below.refl _ _).alloc hb4.size _)).trans (hw5.mono (Nat.le_trans hb4.size (by simp))); obtain ⟨hc5, hf5⟩ := bcell2 hw5; have hs5 : w4.heap.size < w5.heap.size := Nat.lt_of_lt_of_le (by simp) hw5.size; have tok5 : True := trivial)
        | (go_at_call 28; have _t := tok5; clear tok5; refine (PA2.out _ (hb5.trans ((Below.refl _ _).alloc hb5.size _))).mono ?_; rintro e w6 ⟨rfl, hw6⟩; have hb6 := (hb5.trans ((Below.refl _ _).alloc hb5.size _)).trans (hw6.mono (Nat.le_trans hb5.size (by simp))); obtain ⟨hc6, hf6⟩ := bcell2 hw6; have hs6 : w5.heap.size < w6.heap.size := Nat.lt_of_lt_of_le (by simp) hw6.size; have hs56 : w4.heap.size < w6.heap.size := Nat.lt_trans hs5 hs6)
        )
      all_goals first | (exfalso; omega) | skip
      go_ret
      exact ⟨by simp, hb6.trans ((Below.refl _ _).alloc hb6.size _)⟩
    · have hny : n = y := by omega
      subst hny
      have PB2 := Lib.hid (show ∀ wx, Below w.heap.size w wx → Calls Tryd.prog 28 #[.string (str l), .int .i64 base, .int .i64 bits] wx fun e w' => e = .returned (.tuple #[.int .i64 n, .agg #[.int .i64 2, .string (str piText), .string (str l)]]) ∧ Below wx.heap.size wx w' by exact PB)
      have PC2 : ∃ (k : Int) (x y : ByteArray), ∀ wx, Below w.heap.size w wx → Calls Tryd.prog 28 #[.string (str l), .int .i64 base, .int .i64 more] wx fun e w' => e = .returned (.tuple #[.int .i64 m, .agg #[.int .i64 k, .string x, .string y]]) ∧ Below wx.heap.size wx w' := by
        rcases hkg with rfl | rfl
        · exact ⟨0, str [], str [], PC⟩
        · exact ⟨2, str piText, str l, PC⟩
      obtain ⟨kc, xc, yc, PC2⟩ := PC2
      have PC2 := Lib.hid PC2
      clear hE hask hb PA PB PC GG hZ hH hkI hkBI hkCI h2 h3 h4 pn pm pa hkh hkg hk1 hy hHe
      go_enter Tryd.func11, Tryd.ntmps11
      go_wp2_with (first
        | (go_at_call 22; refine AK.out.mono ?_; rintro e w0 ⟨rfl, rfl⟩)
        | (go_at_call 27; with_reducible refine (SA.out w).mono ?_; rintro e w1 ⟨rfl, hw1⟩; have tok1 : True := trivial) | (go_at_call 27; have _t := tok1; clear tok1; refine (SB.out w1).mono ?_; rintro e w2 ⟨rfl, hw2⟩; have hb2 := hw1.trans (hw2.mono hw1.size); have tok2 : True := trivial) | (go_at_call 27; have _t := tok2; clear tok2; refine (SC.out w2).mono ?_; rintro e w3 ⟨rfl, hw3⟩; have hb3 := hb2.trans (hw3.mono hb2.size); have tok3 : True := trivial)
        | (go_at_call 28; have _t := tok3; clear tok3; refine (PB2.out w3 hb3).mono ?_; rintro e w4 ⟨rfl, hw4⟩; have hb4 := hb3.trans (hw4.mono hb3.size); have tok4 : True := trivial)
        | (go_at_call 28; have _t := tok4; clear tok4; refine (PC2.out _ (hb4.trans ((Below.refl _ _).alloc hb4.size _))).mono ?_; rintro e w5 ⟨rfl, hw5⟩; have hb5 := (hb4.trans ((Below.refl _ _).alloc hb4.size _)).trans (hw5.mono (Nat.le_trans hb4.size (by simp))); obtain ⟨hc5, hf5⟩ := bcell2 hw5; have hs5 : w4.heap.size < w5.heap.size := Nat.lt_of_lt_of_le (by simp) hw5.size; have tok5 : True := trivial)
        | (go_at_call 28; have _t := tok5; clear tok5; refine (PA2.out _ (hb5.trans ((Below.refl _ _).alloc hb5.size _))).mono ?_; rintro e w6 ⟨rfl, hw6⟩; have hb6 := (hb5.trans ((Below.refl _ _).alloc hb5.size _)).trans (hw6.mono (Nat.le_trans hb5.size (by simp))); obtain ⟨hc6, hf6⟩ := bcell2 hw6; have hs6 : w5.heap.size < w6.heap.size := Nat.lt_of_lt_of_le (by simp) hw6.size; have hs56 : w4.heap.size < w6.heap.size := Nat.lt_trans hs5 hs6)
        | (go_at_call 26; refine (G2.out _).mono ?_; rintro e w7 ⟨rfl, rfl⟩)
        )
      all_goals first | (exfalso; omega) | skip
      go_ret
      exact ⟨by simp, hb6.trans ((Below.refl _ _).alloc hb6.size _)⟩
    · have hny : n = -y - 1 := by omega
      subst hny
      have q2 : (-y - 1 == y) = false := by simp; omega
      have PB2 := Lib.hid (show ∀ wx, Below w.heap.size w wx → Calls Tryd.prog 28 #[.string (str l), .int .i64 base, .int .i64 bits] wx fun e w' => e = .returned (.tuple #[.int .i64 (-y - 1), .agg #[.int .i64 2, .string (str piText), .string (str l)]]) ∧ Below wx.heap.size wx w' by exact PB)
      have PC2 : ∃ (k : Int) (x y : ByteArray), ∀ wx, Below w.heap.size w wx → Calls Tryd.prog 28 #[.string (str l), .int .i64 base, .int .i64 more] wx fun e w' => e = .returned (.tuple #[.int .i64 m, .agg #[.int .i64 k, .string x, .string y]]) ∧ Below wx.heap.size wx w' := by
        rcases hkg with rfl | rfl
        · exact ⟨0, str [], str [], PC⟩
        · exact ⟨2, str piText, str l, PC⟩
      obtain ⟨kc, xc, yc, PC2⟩ := PC2
      have PC2 := Lib.hid PC2
      clear hE hask hb PA PB PC GG hZ hH hkI hkBI hkCI h2 h3 h4 pn pm pa hkh hkg hk1 hy hHe
      go_enter Tryd.func11, Tryd.ntmps11
      go_wp2_with (first
        | (go_at_call 22; refine AK.out.mono ?_; rintro e w0 ⟨rfl, rfl⟩)
        | (go_at_call 27; with_reducible refine (SA.out w).mono ?_; rintro e w1 ⟨rfl, hw1⟩; have tok1 : True := trivial) | (go_at_call 27; have _t := tok1; clear tok1; refine (SB.out w1).mono ?_; rintro e w2 ⟨rfl, hw2⟩; have hb2 := hw1.trans (hw2.mono hw1.size); have tok2 : True := trivial) | (go_at_call 27; have _t := tok2; clear tok2; refine (SC.out w2).mono ?_; rintro e w3 ⟨rfl, hw3⟩; have hb3 := hb2.trans (hw3.mono hb2.size); have tok3 : True := trivial)
        | (go_at_call 28; have _t := tok3; clear tok3; refine (PB2.out w3 hb3).mono ?_; rintro e w4 ⟨rfl, hw4⟩; have hb4 := hb3.trans (hw4.mono hb3.size); have tok4 : True := trivial)
        | (go_at_call 28; have _t := tok4; clear tok4; refine (PC2.out _ (hb4.trans ((Below.refl _ _).alloc hb4.size _))).mono ?_; rintro e w5 ⟨rfl, hw5⟩; have hb5 := (hb4.trans ((Below.refl _ _).alloc hb4.size _)).trans (hw5.mono (Nat.le_trans hb4.size (by simp))); obtain ⟨hc5, hf5⟩ := bcell2 hw5; have hs5 : w4.heap.size < w5.heap.size := Nat.lt_of_lt_of_le (by simp) hw5.size; have tok5 : True := trivial)
        | (go_at_call 28; have _t := tok5; clear tok5; refine (PA2.out _ (hb5.trans ((Below.refl _ _).alloc hb5.size _))).mono ?_; rintro e w6 ⟨rfl, hw6⟩; have hb6 := (hb5.trans ((Below.refl _ _).alloc hb5.size _)).trans (hw6.mono (Nat.le_trans hb5.size (by simp))); obtain ⟨hc6, hf6⟩ := bcell2 hw6; have hs6 : w5.heap.size < w6.heap.size := Nat.lt_of_lt_of_le (by simp) hw6.size; have hs56 : w4.heap.size < w6.heap.size := Nat.lt_trans hs5 hs6)
        | (go_at_call 26; refine (G2.out _).mono ?_; rintro e w7 ⟨rfl, rfl⟩)
        )
      all_goals first | (exfalso; omega) | skip
      go_ret
      exact ⟨by simp, hb6.trans ((Below.refl _ _).alloc hb6.size _)⟩
end Go.Proofs.YtjjocdhgjbhnhaaDoor.fnBits
