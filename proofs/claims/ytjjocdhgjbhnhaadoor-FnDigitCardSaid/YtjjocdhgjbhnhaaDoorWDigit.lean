/-
  The walk of laws.FnDigit: it returns true.
-/
import Derived.Test.YtjjocdhgjbhnhaaDoorNumRange
import Derived.Test.YtjjocdhgjbhnhaaDoorParse
import Derived.Test.YtjjocdhgjbhnhaaDoorPlainDigit
import Derived.Outline
namespace Go.Proofs.YtjjocdhgjbhnhaaDoor.fnDigit
open Go.RowKit
set_option maxRecDepth 100000
set_option linter.unusedVariables false
theorem div_gt {u d b : Nat} (hb : 2 ≤ b) (hd : d < b) (h36 : b ≤ 36) : (18446744073709551615 - (d : Int)) / (b : Int) < (u : Int) ↔ 18446744073709551615 < u * b + d := by
  rw [Int.ediv_lt_iff_lt_mul (by omega), ← Int.natCast_mul]
  omega
set_option maxHeartbeats 4000000 in
theorem walk (w : World) (u : Int) (hu : (Lit.int .u64 u).wf = true) (d : Int) (hd : (Lit.int .u8 d).wf = true) (base : Int) (hbase : (Lit.int .i64 base).wf = true) (hL : laidMetH Tryd.prog Rows.fnDigitRow.laid w) :
    Calls Tryd.prog 9 #[.int .u64 u, .int .u8 d, .int .i64 base] w fun e w' => e = .returned (.bool true) ∧ Below w.heap.size w w' := by
  have hT : NumT w := ⟨pow10T_of hL (by kernel_rfl) (by simp [Rows.fnDigitRow]), bruT_of hL (by kernel_rfl) (by simp [Rows.fnDigitRow])⟩
  obtain ⟨aS, aR, hE⟩ := errT_of hL (by kernel_rfl) (by simp [Rows.fnDigitRow, Rows.laid_strconv_ErrSyntax, synText]) (by simp [Rows.fnDigitRow, Rows.laid_strconv_ErrRange, rngText])
  have hu := wf_u64 hu
  have hd : 0 ≤ d ∧ d ≤ 255 := by simpa [Lit.wf, IntKind.min, IntKind.max, IntKind.signed, IntKind.bits] using hd
  have hbase := wf_i64 hbase
  clear hL
  rcases base_cases base with h | h | ⟨b, rfl, h2, h36⟩
  · have g1 : decide (base < 2) = true := by simpa using h
    go_enter Tryd.func9, Tryd.ntmps9
    go_wp2_with fail
    go_ret
    exact ⟨rfl, Below.refl _ _⟩
  · have g1 : decide (base < 2) = false := by simp; omega
    have g2 : decide (36 < base) = true := by simpa using h
    go_enter Tryd.func9, Tryd.ntmps9
    go_wp2_with fail
    go_ret
    exact ⟨rfl, Below.refl _ _⟩
  · obtain ⟨n, rfl⟩ : ∃ n : Nat, u = n := ⟨u.toNat, by omega⟩
    obtain ⟨k, rfl⟩ : ∃ n : Nat, d = n := ⟨d.toNat, by omega⟩
    have g1 : decide ((b : Int) < 2) = false := by simp; omega
    have g2 : decide (36 < (b : Int)) = false := by simp; omega
    obtain ⟨bI, hbI⟩ : ∃ bI : Int, bI = (b : Int) := ⟨_, rfl⟩
    obtain ⟨x, hx⟩ : ∃ x : Int, x = (n : Int) := ⟨_, rfl⟩
    obtain ⟨y, hy⟩ : ∃ y : Int, y = (k : Int) := ⟨_, rfl⟩
    have x0 : 0 ≤ x := by omega
    have x1 : x ≤ 18446744073709551615 := by omega
    have y0 : 0 ≤ y := by omega
    have y1 : y ≤ 255 := by omega
    have b1 : 2 ≤ bI := by omega
    have b2 : bI ≤ 36 := by omega
    by_cases hkb : b ≤ k
    · have g3 : bI ≤ y := by omega
      rw [← hbI, ← hx, ← hy]
      rw [← hbI] at g1 g2
      clear hT hE hx hy hbI hu hd hbase
      go_enter Tryd.func9, Tryd.ntmps9
      go_wp2_with fail
      all_goals first | (exfalso; omega) | skip
      go_ret
      exact ⟨rfl, Below.refl _ _⟩
    · have hkb' : k < b := by omega
      have g3 : y < bI := by omega
      have S := Lib.hid (fun wx => specFormatUint_any k b wx h2 h36 (by omega))
      have F := Lib.hid (fun wx (hb : Below w.heap.size w wx) => FormatUint_any n b wx h2 h36 (by omega) (hT.below hb))
      have l1 := digB_length_64 (b := b) (u := n) h2 (by omega)
      have l2 := digB_length_64 (b := b) (u := k) h2 (by omega)
      have P := Lib.hid (fun wx (hb : Below w.heap.size w wx) => ParseUint_any (digB b n ++ digB b k) (b : Int) 64 wx (.inr (by omega)) (by omega) (by omega) (by simp; omega) aS aR (hE.below hb))
      have hv := pUe_push (b := b) (bits := 64) (u := n) (d := k) h2 h36 hkb'
      rw [if_neg (show ¬ (64 : Nat) = 0 by decide), show (2 : Nat) ^ 64 - 1 = 18446744073709551615 by decide] at hv
      have hpush := digB_push (b := b) (u := n) (d := k) h2 hkb'
      rw [← digB_small hkb'] at hpush
      have hgt := div_gt (u := n) (d := k) (b := b) h2 hkb' h36
      rw [show ((b : Int)).toNat = b by omega, show (64 : Int).toNat = 64 by rfl] at P
      by_cases hov : 18446744073709551615 < n * b + k
      · rw [if_neg (by omega)] at hv
        rw [hv] at P
        have q1 : (18446744073709551615 - y) / bI < x := by rw [hy, hbI, hx]; exact hgt.2 hov
        have PP := Lib.hid (show ∀ wx, Below w.heap.size w wx → Calls Tryd.prog 21 #[.string (str (digB b n ++ digB b k)), .int .i64 b, .int .i64 64] wx fun e w' => e = .returned (.tuple #[.int .u64 18446744073709551615, .agg #[.int .i64 2, .string (str puText), .string (str (digB b n ++ digB b k))]]) ∧ Below wx.heap.size wx w' from P.out)
        obtain ⟨A, hA⟩ : ∃ A, A = digB b n := ⟨_, rfl⟩
        obtain ⟨B, hB⟩ : ∃ B, B = digB b k := ⟨_, rfl⟩
        have hcat : str A ++ str B = str (A ++ B) := str_append A B
        have hsum : ¬ 9223372036854775807 < (str A).size + (str B).size := by rw [size_str, size_str, hA, hB]; omega
        obtain ⟨T, hTT⟩ : ∃ T, T = A ++ B := ⟨_, rfl⟩
        rw [← hA, ← hB, ← hTT] at PP
        rw [← hTT] at hcat
        rw [← hA] at F
        rw [← hB] at S
        rw [← hbI, ← hx, ← hy]
        rw [← hbI] at g1 g2 PP F S
        rw [← hx] at F
        rw [← hy] at S
        clear hT hE hx hy hbI hu hd hbase hgt hpush hv P hA hB hTT hov
        go_enter Tryd.func9, Tryd.ntmps9
        go_wp2_with (first
          | (go_at_call 20; refine (S.out _).mono ?_; rintro e w1 ⟨rfl, hw1⟩)
          | (go_at_call 25; refine (F.out w1 hw1).mono ?_; rintro e w2 ⟨rfl, hw2⟩; have hb2 := hw1.trans (hw2.mono hw1.size))
          | (go_at_call 21; refine (PP.out w2 hb2).mono ?_; rintro e w3 ⟨rfl, hw3⟩; have hb3 := hb2.trans (hw3.mono hb2.size)))
        all_goals first | (exfalso; omega) | skip
        go_ret
        exact ⟨rfl, hb3.trans ((Below.refl _ _).alloc hb3.size _)⟩
      · rw [if_pos (by omega)] at hv
        rw [hv] at P
        obtain ⟨z, hz⟩ : ∃ z : Int, z = ((n * b + k : Nat) : Int) := ⟨_, rfl⟩
        have q1 : x ≤ (18446744073709551615 - y) / bI := by rw [hy, hbI, hx]; exact Int.not_lt.1 (fun h => hov (hgt.1 h))
        have G := Lib.hid (fun wx (hb : Below w.heap.size w wx) => FormatUint_any (n * b + k) b wx h2 h36 (by omega) (hT.below hb))
        have PP := Lib.hid (show ∀ wx, Below w.heap.size w wx → Calls Tryd.prog 21 #[.string (str (digB b n ++ digB b k)), .int .i64 b, .int .i64 64] wx fun e w' => e = .returned (.tuple #[.int .u64 z, .agg #[.int .i64 0, .string (str []), .string (str [])]]) ∧ Below wx.heap.size wx w' by rw [hz]; exact P.out)
        obtain ⟨pr, hpr⟩ : ∃ pr : Int, pr = x * bI := ⟨_, rfl⟩
        have hzp : z = pr + y := by rw [hz, hpr, hx, hbI, hy, Int.natCast_add, Int.natCast_mul]
        have hmul : x * bI = pr := hpr.symm
        have p0 : 0 ≤ pr := by rw [hpr]; exact Int.mul_nonneg x0 (by omega)
        have p1 : pr + y ≤ 18446744073709551615 := by rw [← hzp, hz]; omega
        rw [hpush] at G
        obtain ⟨A, hA⟩ : ∃ A, A = digB b n := ⟨_, rfl⟩
        obtain ⟨B, hB⟩ : ∃ B, B = digB b k := ⟨_, rfl⟩
        have hcat : str A ++ str B = str (A ++ B) := str_append A B
        have hsum : ¬ 9223372036854775807 < (str A).size + (str B).size := by rw [size_str, size_str, hA, hB]; omega
        obtain ⟨T, hTT⟩ : ∃ T, T = A ++ B := ⟨_, rfl⟩
        rw [← hA, ← hB, ← hTT] at PP G
        rw [← hTT] at hcat
        rw [← hA] at F
        rw [← hB] at S
        rw [← hbI, ← hx, ← hy]
        rw [← hbI] at g1 g2 PP F S G
        rw [← hx] at F
        rw [← hy] at S
        rw [hzp] at PP
        rw [← hz, hzp] at G
        by_cases hn0 : n = 0
        · have q2 : (x == 0) = true := by simp; omega
          rw [if_pos hn0] at G
          clear hT hE hx hy hbI hu hd hbase hgt hpush hv P hA hB hTT hov hz hzp hpr hn0
          go_enter Tryd.func9, Tryd.ntmps9
          go_wp2_with (first
            | (go_at_call 20; refine (S.out _).mono ?_; rintro e w1 ⟨rfl, hw1⟩; have tok1 : True := trivial)
            | (go_at_call 25; have _t := tok1; refine (F.out w1 hw1).mono ?_; rintro e w2 ⟨rfl, hw2⟩; have hb2 := hw1.trans (hw2.mono hw1.size); clear tok1)
            | (go_at_call 21; refine (PP.out w2 hb2).mono ?_; rintro e w3 ⟨rfl, hw3⟩; have hb3 := hb2.trans (hw3.mono hb2.size); have tok2 : True := trivial)
            | (go_at_call 25; have _t := tok2; refine (F.out _ (hb3.trans ((Below.refl _ _).alloc hb3.size _))).mono ?_; rintro e w4 ⟨rfl, hw4⟩; have hb4 := (hb3.trans ((Below.refl _ _).alloc hb3.size _)).trans (hw4.mono (Nat.le_trans hb3.size (by simp))); obtain ⟨hc4, hf4⟩ := bcell2 hw4; clear tok2; have tok3 : True := trivial)
            | (go_at_call 25; have _t := tok3; refine (G.out w4 hb4).mono ?_; rintro e w5 ⟨rfl, hw5⟩))
          all_goals first | (exfalso; omega) | skip
          go_ret
          exact ⟨by simp, hb4.trans (hw5.mono hb4.size)⟩
        · have q2 : (x == 0) = false := by simp; omega
          rw [if_neg hn0] at G
          clear hT hE hx hy hbI hu hd hbase hgt hpush hv P hA hB hTT hov hz hzp hpr hn0
          go_enter Tryd.func9, Tryd.ntmps9
          go_wp2_with (first
            | (go_at_call 20; refine (S.out _).mono ?_; rintro e w1 ⟨rfl, hw1⟩; have tok1 : True := trivial)
            | (go_at_call 25; have _t := tok1; refine (F.out w1 hw1).mono ?_; rintro e w2 ⟨rfl, hw2⟩; have hb2 := hw1.trans (hw2.mono hw1.size); clear tok1)
            | (go_at_call 21; refine (PP.out w2 hb2).mono ?_; rintro e w3 ⟨rfl, hw3⟩; have hb3 := hb2.trans (hw3.mono hb2.size); have tok2 : True := trivial)
            | (go_at_call 25; have _t := tok2; refine (F.out _ (hb3.trans ((Below.refl _ _).alloc hb3.size _))).mono ?_; rintro e w4 ⟨rfl, hw4⟩; have hb4 := (hb3.trans ((Below.refl _ _).alloc hb3.size _)).trans (hw4.mono (Nat.le_trans hb3.size (by simp))); obtain ⟨hc4, hf4⟩ := bcell2 hw4; clear tok2; have tok3 : True := trivial)
            | (go_at_call 25; have _t := tok3; refine (G.out w4 hb4).mono ?_; rintro e w5 ⟨rfl, hw5⟩))
          all_goals first | (exfalso; omega) | skip
          go_ret
          exact ⟨by simp, hb4.trans (hw5.mono hb4.size)⟩
end Go.Proofs.YtjjocdhgjbhnhaaDoor.fnDigit
