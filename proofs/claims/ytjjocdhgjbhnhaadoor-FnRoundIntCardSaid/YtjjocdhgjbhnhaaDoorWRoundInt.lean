/-
  The walk of laws.FnRoundInt: it returns true.
-/
import Derived.Test.YtjjocdhgjbhnhaaDoorNumRange
import Derived.Test.YtjjocdhgjbhnhaaDoorParse
import Derived.Test.YtjjocdhgjbhnhaaDoorPlainRoundI
import Derived.Test.YtjjocdhgjbhnhaaDoorGreatest
import Derived.Outline
namespace Go.Proofs.YtjjocdhgjbhnhaaDoor.fnRoundInt
open Go.RowKit
set_option maxRecDepth 100000
set_option linter.unusedVariables false
set_option maxHeartbeats 4000000 in
theorem walk (w : World) (u : Int) (hu : (Lit.int .i64 u).wf = true) (base : Int) (hbase : (Lit.int .i64 base).wf = true) (hL : laidMetH Tryd.prog Rows.fnRoundIntRow.laid w) :
    Calls Tryd.prog 14 #[.int .i64 u, .int .i64 base] w fun e w' => e = .returned (.bool true) ∧ Below w.heap.size w w' := by
  have hT : NumT w := ⟨pow10T_of hL (by kernel_rfl) (by simp [Rows.fnRoundIntRow]), bruT_of hL (by kernel_rfl) (by simp [Rows.fnRoundIntRow])⟩
  obtain ⟨aS, aR, hE⟩ := errT_of hL (by kernel_rfl) (by simp [Rows.fnRoundIntRow, Rows.laid_strconv_ErrSyntax, synText]) (by simp [Rows.fnRoundIntRow, Rows.laid_strconv_ErrRange, rngText])
  have hu := wf_i64 hu
  have hbase := wf_i64 hbase
  clear hL
  rcases base_cases base with h | h | ⟨b, rfl, h2, h36⟩
  · have g1 : decide (base < 2) = true := by simpa using h
    go_enter Tryd.func14, Tryd.ntmps14
    go_wp2_with fail
    go_ret
    exact ⟨rfl, Below.refl _ _⟩
  · have g1 : decide (base < 2) = false := by simp; omega
    have g2 : decide (36 < base) = true := by simpa using h
    go_enter Tryd.func14, Tryd.ntmps14
    go_wp2_with fail
    go_ret
    exact ⟨rfl, Below.refl _ _⟩
  · have g1 : decide ((b : Int) < 2) = false := by simp; omega
    have g2 : decide (36 < (b : Int)) = false := by simp; omega
    have C := Lib.hid (FormatInt_any u b w h2 h36 hu.1 hu.2 hT)
    have hlen := fmtI_length (b := b) (i := u) h2 hu.1 hu.2
    have P := Lib.hid (fun wx (hb : Below w.heap.size w wx) (k : Int) (h0 : 1 ≤ k) (h64 : k ≤ 64) => ParseInt_any (fmtI b u) (b : Int) k wx (.inr (by omega)) (by omega) h64 (by omega) aS aR (hE.below hb))
    have V := Lib.hid (fun (k : Nat) hB => pIe_fmtI (b := b) (bits := k) h2 h36 hB u)
    obtain ⟨D, hD⟩ : ∃ D, D = fmtI b u := ⟨_, rfl⟩
    rw [← hD] at C P V
    obtain ⟨bI, hbI⟩ : ∃ bI : Int, bI = (b : Int) := ⟨_, rfl⟩
    have HBI := Lib.hid hbI
    have x0 := hu.1
    have x1 := hu.2
    rw [← hbI] at g1 g2 C P ⊢
    clear hD hT hE hbI hu hbase
    go_enter Tryd.func14, Tryd.ntmps14
    go_wp2_with (go_at_call 30; refine C.out.mono ?_; rintro e w1 ⟨rfl, hw1⟩; clear C)
    go_loopw [6] (fun vk wr => ∃ k : Int, vk = .int .i64 k ∧ 2 ≤ k ∧ k ≤ 65 ∧ Hid (Below w.heap.size w wr)) (fun vk _ => (65 - intOf vk).toNat)
    case atStart => exact ⟨2, rfl, by omega, by omega, hw1⟩
    case round =>
      obtain ⟨k, rfl, hk1, hk2, hB⟩ := hrel
      by_cases hk : k ≤ 64
      · have hv := V.out k.toNat (by rw [if_neg (by omega)]; omega)
        have PP := P.out wr hB.out k (by omega) hk
        have G := greatest_s k (by omega) hk wr
        rw [show bitsN k.toNat = if k.toNat = 0 then 64 else k.toNat from rfl] at G
        rw [show bI.toNat = b by have := HBI.out; omega] at PP
        have hfin := half_fin ⟨k.toNat, by omega⟩ (by simp only; omega)
        simp only at hfin
        rw [if_neg (show ¬ k.toNat = 0 by omega)] at hv G
        obtain ⟨H, hH⟩ : ∃ H, H = 2 ^ (k.toNat - 1) := ⟨_, rfl⟩
        rw [← hH] at hv G hfin
        obtain ⟨y, hy⟩ : ∃ y : Int, y = (H : Int) - 1 := ⟨_, rfl⟩
        have y0 : 0 ≤ y := by have := hfin.2.2.1; omega
        have y1 : y ≤ 9223372036854775807 := by have := hfin.2.1; omega
        have GG := Lib.hid (show Calls Tryd.prog 26 #[.int .i64 k, .bool true] wr fun e w' => e = .returned (.int .u64 y) ∧ wr = w' by rw [hy, show (H : Int) - 1 = ((H - 1 : Nat) : Int) by omega]; exact G)
        clear hfin hH
        by_cases c1 : u ≤ y
        · rw [if_pos (show u ≤ (H : Int) - 1 by omega)] at hv
          by_cases c2 : -y - 1 ≤ u
          · rw [if_pos (show -(H : Int) ≤ u by omega)] at hv
            rw [hv] at PP
            have PP2 := Lib.hid (show Calls Tryd.prog 28 #[.string (str D), .int .i64 bI, .int .i64 k] wr fun e w' => e = .returned (.tuple #[.int .i64 (u), .agg #[.int .i64 0, .string (str []), .string (str [])]]) ∧ Below wr.heap.size wr w' by exact PP)
            clear hv PP G hy
            go_wp2_with (first
              | (go_at_call 26; refine GG.out.mono ?_; rintro e w2 ⟨rfl, rfl⟩)
              | (go_at_call 28; refine PP2.out.mono ?_; rintro e w3 ⟨rfl, hw3⟩))
            go_roundw
            case rel => exact ⟨k + 1, rfl, by omega, by omega, hB.out.trans ((hw3.mono hB.out.size).trans ((Below.refl _ _).alloc (Nat.le_trans hB.out.size hw3.size) _))⟩
            case measure => simp [intOf]; omega
          · rw [if_neg (show ¬ -(H : Int) ≤ u by omega)] at hv
            rw [hv] at PP
            have PP2 := Lib.hid (show Calls Tryd.prog 28 #[.string (str D), .int .i64 bI, .int .i64 k] wr fun e w' => e = .returned (.tuple #[.int .i64 (-y - 1), .agg #[.int .i64 2, .string (str piText), .string (str D)]]) ∧ Below wr.heap.size wr w' by rw [show -y - 1 = -(H : Int) by omega]; exact PP)
            clear hv PP G hy
            go_wp2_with (first
              | (go_at_call 26; refine GG.out.mono ?_; rintro e w2 ⟨rfl, rfl⟩)
              | (go_at_call 28; refine PP2.out.mono ?_; rintro e w3 ⟨rfl, hw3⟩))
            go_roundw
            case rel => exact ⟨k + 1, rfl, by omega, by omega, hB.out.trans ((hw3.mono hB.out.size).trans ((Below.refl _ _).alloc (Nat.le_trans hB.out.size hw3.size) _))⟩
            case measure => simp [intOf]; omega
        · rw [if_neg (show ¬ u ≤ (H : Int) - 1 by omega)] at hv
          rw [hv] at PP
          have PP2 := Lib.hid (show Calls Tryd.prog 28 #[.string (str D), .int .i64 bI, .int .i64 k] wr fun e w' => e = .returned (.tuple #[.int .i64 (y), .agg #[.int .i64 2, .string (str piText), .string (str D)]]) ∧ Below wr.heap.size wr w' by rw [hy]; exact PP)
          clear hv PP G hy
          go_wp2_with (first
            | (go_at_call 26; refine GG.out.mono ?_; rintro e w2 ⟨rfl, rfl⟩)
            | (go_at_call 28; refine PP2.out.mono ?_; rintro e w3 ⟨rfl, hw3⟩))
          go_roundw
          case rel => exact ⟨k + 1, rfl, by omega, by omega, hB.out.trans ((hw3.mono hB.out.size).trans ((Below.refl _ _).alloc (Nat.le_trans hB.out.size hw3.size) _))⟩
          case measure => simp [intOf]; omega
      · go_wp2_with fail
        go_ret
        exact ⟨rfl, hB.out⟩
end Go.Proofs.YtjjocdhgjbhnhaaDoor.fnRoundInt
