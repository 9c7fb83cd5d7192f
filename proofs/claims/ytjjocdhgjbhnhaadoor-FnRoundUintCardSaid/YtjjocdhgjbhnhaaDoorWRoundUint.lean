/-
  The walk of laws.FnRoundUint: it returns true.
-/
import Derived.Test.YtjjocdhgjbhnhaaDoorNumRange
import Derived.Test.YtjjocdhgjbhnhaaDoorParse
import Derived.Test.YtjjocdhgjbhnhaaDoorPlainRound
import Derived.Test.YtjjocdhgjbhnhaaDoorGreatest
import Derived.Outline
namespace Go.Proofs.YtjjocdhgjbhnhaaDoor.fnRoundUint
open Go.RowKit
set_option maxRecDepth 100000
set_option linter.unusedVariables false
set_option maxHeartbeats 4000000 in
theorem walk (w : World) (u : Int) (hu : (Lit.int .u64 u).wf = true) (base : Int) (hbase : (Lit.int .i64 base).wf = true) (hL : laidMetH Tryd.prog Rows.fnRoundUintRow.laid w) :
    Calls Tryd.prog 10 #[.int .u64 u, .int .i64 base] w fun e w' => e = .returned (.bool true) ∧ Below w.heap.size w w' := by
  have hT : NumT w := ⟨pow10T_of hL (by kernel_rfl) (by simp [Rows.fnRoundUintRow]), bruT_of hL (by kernel_rfl) (by simp [Rows.fnRoundUintRow])⟩
  obtain ⟨aS, aR, hE⟩ := errT_of hL (by kernel_rfl) (by simp [Rows.fnRoundUintRow, Rows.laid_strconv_ErrSyntax, synText]) (by simp [Rows.fnRoundUintRow, Rows.laid_strconv_ErrRange, rngText])
  have hu := wf_u64 hu
  have hbase := wf_i64 hbase
  clear hL
  rcases base_cases base with h | h | ⟨b, rfl, h2, h36⟩
  · have g1 : decide (base < 2) = true := by simpa using h
    go_enter Tryd.func10, Tryd.ntmps10
    go_wp2_with fail
    go_ret
    exact ⟨rfl, Below.refl _ _⟩
  · have g1 : decide (base < 2) = false := by simp; omega
    have g2 : decide (36 < base) = true := by simpa using h
    go_enter Tryd.func10, Tryd.ntmps10
    go_wp2_with fail
    go_ret
    exact ⟨rfl, Below.refl _ _⟩
  · obtain ⟨n, rfl⟩ : ∃ n : Nat, u = n := ⟨u.toNat, by omega⟩
    have g1 : decide ((b : Int) < 2) = false := by simp; omega
    have g2 : decide (36 < (b : Int)) = false := by simp; omega
    have C := Lib.hid (FormatUint_any n b w h2 h36 (by omega) hT)
    have hlen := digB_length_64 (b := b) (u := n) h2 (by omega)
    have P := Lib.hid (fun wx (hb : Below w.heap.size w wx) (k : Int) (h0 : 1 ≤ k) (h64 : k ≤ 64) => ParseUint_any (digB b n) (b : Int) k wx (.inr (by omega)) (by omega) h64 (by omega) aS aR (hE.below hb))
    have V := Lib.hid (fun (k : Nat) => pUe_digB (b := b) (bits := k) h2 h36 n)
    obtain ⟨D, hD⟩ : ∃ D, D = digB b n := ⟨_, rfl⟩
    rw [← hD] at C P V
    obtain ⟨x, hx⟩ : ∃ x : Int, x = (n : Int) := ⟨_, rfl⟩
    obtain ⟨bI, hbI⟩ : ∃ bI : Int, bI = (b : Int) := ⟨_, rfl⟩
    have HX := Lib.hid hx
    have HBI := Lib.hid hbI
    have x0 : 0 ≤ x := by omega
    have x1 : x ≤ 18446744073709551615 := by omega
    rw [← hbI] at g1 g2 C P ⊢
    rw [← hx] at C ⊢
    clear hD hT hE hx hbI hu hbase
    go_enter Tryd.func10, Tryd.ntmps10
    go_wp2_with (go_at_call 25; refine C.out.mono ?_; rintro e w1 ⟨rfl, hw1⟩; clear C)
    go_loopw [6] (fun vk wr => ∃ k : Int, vk = .int .i64 k ∧ 1 ≤ k ∧ k ≤ 65 ∧ Hid (Below w.heap.size w wr)) (fun vk _ => (65 - intOf vk).toNat)
    case atStart => exact ⟨1, rfl, by omega, by omega, hw1⟩
    case round =>
      obtain ⟨k, rfl, hk1, hk2, hB⟩ := hrel
      by_cases hk : k ≤ 64
      · have hv := V.out k.toNat
        have PP := P.out wr hB.out k hk1 hk
        have G := greatest_u k (by omega) hk wr
        rw [show bitsN k.toNat = if k.toNat = 0 then 64 else k.toNat from rfl] at G
        rw [show bI.toNat = b by have := HBI.out; omega] at PP
        obtain ⟨M, hM⟩ : ∃ M, M = 2 ^ (if k.toNat = 0 then 64 else k.toNat) - 1 := ⟨_, rfl⟩
        rw [← hM] at hv G
        obtain ⟨y, hy⟩ : ∃ y : Int, y = (M : Int) := ⟨_, rfl⟩
        rw [← hy] at G
        have GG := Lib.hid G
        by_cases hle : n ≤ M
        · rw [if_pos hle] at hv
          rw [hv] at PP
          have PP2 := Lib.hid (show Calls Tryd.prog 21 #[.string (str D), .int .i64 bI, .int .i64 k] wr fun e w' => e = .returned (.tuple #[.int .u64 x, .agg #[.int .i64 0, .string (str []), .string (str [])]]) ∧ Below wr.heap.size wr w' by rw [HX.out]; exact PP)
          have q1 : x ≤ y := by have := HX.out; omega
          clear hv PP G hy hM hle
          go_wp2_with (first
            | (go_at_call 26; refine GG.out.mono ?_; rintro e w2 ⟨rfl, rfl⟩)
            | (go_at_call 21; refine PP2.out.mono ?_; rintro e w3 ⟨rfl, hw3⟩))
          go_roundw
          case rel => exact ⟨k + 1, rfl, by omega, by omega, hB.out.trans ((hw3.mono hB.out.size).trans ((Below.refl _ _).alloc (Nat.le_trans hB.out.size hw3.size) _))⟩
          case measure => simp [intOf]; omega
        · rw [if_neg hle] at hv
          rw [hv] at PP
          have PP2 := Lib.hid (show Calls Tryd.prog 21 #[.string (str D), .int .i64 bI, .int .i64 k] wr fun e w' => e = .returned (.tuple #[.int .u64 y, .agg #[.int .i64 2, .string (str puText), .string (str D)]]) ∧ Below wr.heap.size wr w' by rw [hy]; exact PP)
          have q1 : y < x := by have := HX.out; omega
          clear hv PP G hy hM hle
          go_wp2_with (first
            | (go_at_call 26; refine GG.out.mono ?_; rintro e w2 ⟨rfl, rfl⟩)
            | (go_at_call 21; refine PP2.out.mono ?_; rintro e w3 ⟨rfl, hw3⟩))
          go_roundw
          case rel => exact ⟨k + 1, rfl, by omega, by omega, hB.out.trans ((hw3.mono hB.out.size).trans ((Below.refl _ _).alloc (Nat.le_trans hB.out.size hw3.size) _))⟩
          case measure => simp [intOf]; omega
      · go_wp2_with fail
        go_ret
        exact ⟨rfl, hB.out⟩
end Go.Proofs.YtjjocdhgjbhnhaaDoor.fnRoundUint
