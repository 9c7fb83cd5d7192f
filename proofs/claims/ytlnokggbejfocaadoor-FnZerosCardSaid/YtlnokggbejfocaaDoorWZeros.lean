/-
  The walk of laws.FnZeros: it returns true.
-/
import Derived.Test.YtlnokggbejfocaaDoorParse
import Derived.Test.YtlnokggbejfocaaDoorPlainFive
import Derived.Test.YtlnokggbejfocaaDoorZeros
import Derived.Test.YtlnokggbejfocaaDoorSpecFormat
import Derived.Outline
namespace Go.Proofs.YtlnokggbejfocaaDoor.fnZeros
open Go.RowKit
set_option maxRecDepth 100000
set_option linter.unusedVariables false
set_option linter.unusedSimpArgs false
theorem wf_i64' {x : Int} (h : (Lit.int .i64 x).wf = true) : -9223372036854775808 ≤ x ∧ x ≤ 9223372036854775807 := by simpa [Lit.wf, IntKind.min, IntKind.max, IntKind.signed, IntKind.bits] using h
theorem wf_u64' {x : Int} (h : (Lit.int .u64 x).wf = true) : 0 ≤ x ∧ x ≤ 18446744073709551615 := by simpa [Lit.wf, IntKind.min, IntKind.max, IntKind.signed, IntKind.bits] using h
set_option maxHeartbeats 8000000 in
theorem walk (w : World) (u : Int) (hu : (Lit.int .u64 u).wf = true) (count : Int) (hcount : (Lit.int .i64 count).wf = true) (base : Int) (hbase : (Lit.int .i64 base).wf = true) (hL : laidMetH Tryd.prog Rows.fnZerosRow.laid w) :
    Calls Tryd.prog 7 #[.int .u64 u, .int .i64 count, .int .i64 base] w fun e w' => e = .returned (.bool true) ∧ Below w.heap.size w w' := by
  obtain ⟨aS, aR, hE⟩ := errT_of hL (by kernel_rfl) (by simp [Rows.fnZerosRow, Rows.laid_strconv_ErrSyntax, synText]) (by simp [Rows.fnZerosRow, Rows.laid_strconv_ErrRange, rngText])
  have hu := wf_u64' hu
  have hcount := wf_i64' hcount
  have hbase := wf_i64' hbase
  clear hL
  by_cases c1 : base < 2
  · have g1 : decide (base < 2) = true := by simpa using c1
    clear hE
    go_enter Tryd.func7, Tryd.ntmps7
    go_wp2_with fail
    all_goals first | (exfalso; omega) | skip
    go_ret
    exact ⟨rfl, Below.refl _ _⟩
  by_cases c2 : 36 < base
  · have g1 : decide (base < 2) = false := by simpa using c1
    have g2 : decide (36 < base) = true := by simpa using c2
    clear hE c1
    go_enter Tryd.func7, Tryd.ntmps7
    go_wp2_with fail
    all_goals first | (exfalso; omega) | skip
    go_ret
    exact ⟨rfl, Below.refl _ _⟩
  by_cases c3 : count < 0
  · have g1 : decide (base < 2) = false := by simpa using c1
    have g2 : decide (36 < base) = false := by simpa using c2
    have g3 : decide (count < 0) = true := by simpa using c3
    clear hE c1 c2
    go_enter Tryd.func7, Tryd.ntmps7
    go_wp2_with fail
    all_goals first | (exfalso; omega) | skip
    go_ret
    exact ⟨rfl, Below.refl _ _⟩
  by_cases c4 : 1000 < count
  · have g1 : decide (base < 2) = false := by simpa using c1
    have g2 : decide (36 < base) = false := by simpa using c2
    have g3 : decide (count < 0) = false := by simpa using c3
    have g4 : decide (1000 < count) = true := by simpa using c4
    clear hE c1 c2 c3
    go_enter Tryd.func7, Tryd.ntmps7
    go_wp2_with fail
    all_goals first | (exfalso; omega) | skip
    go_ret
    exact ⟨rfl, Below.refl _ _⟩
  have g1 : decide (base < 2) = false := by simpa using c1
  have g2 : decide (36 < base) = false := by simpa using c2
  have g3 : decide (count < 0) = false := by simpa using c3
  have g4 : decide (1000 < count) = false := by simpa using c4
  obtain ⟨n, rfl⟩ : ∃ n : Nat, u = n := ⟨u.toNat, by omega⟩
  obtain ⟨k, rfl⟩ : ∃ n : Nat, count = n := ⟨count.toNat, by omega⟩
  obtain ⟨b, rfl⟩ : ∃ n : Nat, base = n := ⟨base.toNat, by omega⟩
  have h2 : 2 ≤ b := by omega
  have h36 : b ≤ 36 := by omega
  have S := Lib.hid (fun wx => specFormatUint_any n b wx h2 h36 (by omega))
  have Z := Lib.hid (fun wx => zeros_any k wx (by omega))
  have l1 := digB_length_64 (b := b) (u := n) h2 (by omega)
  have hp := pUe_zeros (b := b) (bits := 64) h2 h36 k n
  rw [mx64, if_pos (by omega)] at hp
  have P := fun wx (hbx : Below w.heap.size w wx) => ParseUint_any (List.replicate k 48 ++ digB b n) (b : Int) 64 wx (.inr (by omega)) (by omega) (by omega) (by simp; omega) aS aR (hE.below hbx)
  have Q1 := fun wx (hbx : Below w.heap.size w wx) => ParseInt_any (43 :: (List.replicate k 48 ++ digB b n)) (b : Int) 64 wx (.inr (by omega)) (by omega) (by omega) (by simp; omega) aS aR (hE.below hbx)
  have Q2 := fun wx (hbx : Below w.heap.size w wx) => ParseInt_any (45 :: (List.replicate k 48 ++ digB b n)) (b : Int) 64 wx (.inr (by omega)) (by omega) (by omega) (by simp; omega) aS aR (hE.below hbx)
  rw [show (64 : Int).toNat = 64 from rfl, show ((b : Int)).toNat = b by omega] at P Q1 Q2
  rw [hp] at P
  have i1 := pIe_plus64 (b := b) hp
  have i2 := pIe_minus64 (b := b) hp
  obtain ⟨D, hD⟩ : ∃ D, D = digB b n := ⟨_, rfl⟩
  obtain ⟨O, hO⟩ : ∃ O : List UInt8, O = List.replicate k 48 := ⟨_, rfl⟩
  rw [← hD] at S P Q1 Q2 l1 i1 i2
  rw [← hO] at Z P Q1 Q2 i1 i2
  have ol : O.length = k := by rw [hO, List.length_replicate]
  have d1 : str O ++ str D = str (O ++ D) := str_append O D
  have s1 : ¬ 9223372036854775807 < (str O).size + (str D).size := by rw [size_str, size_str]; omega
  obtain ⟨T, hT⟩ : ∃ T, T = O ++ D := ⟨_, rfl⟩
  have tl : T.length ≤ 2000 := by rw [hT, List.length_append]; omega
  rw [← hT] at d1 P Q1 Q2 i1 i2
  have d2 : (ByteArray.mk #[43]) ++ str T = str (43 :: T) := str_append [43] T
  have d3 : (ByteArray.mk #[45]) ++ str T = str (45 :: T) := str_append [45] T
  have s2 : ¬ 9223372036854775807 < (str [43]).size + (str T).size := by rw [size_str, size_str]; simp; omega
  have s3 : ¬ 9223372036854775807 < (str [45]).size + (str T).size := by rw [size_str, size_str]; simp; omega
  obtain ⟨x, hx⟩ : ∃ x : Int, x = (n : Int) := ⟨_, rfl⟩
  have x0 : 0 ≤ x := by omega
  have x1 : x ≤ 18446744073709551615 := by omega
  obtain ⟨bI, hbI⟩ : ∃ x : Int, x = (b : Int) := ⟨_, rfl⟩
  obtain ⟨kI, hkI⟩ : ∃ x : Int, x = (k : Int) := ⟨_, rfl⟩
  have PP := Lib.hid (show ∀ wx, Below w.heap.size w wx → Calls Tryd.prog 12 #[.string (str T), .int .i64 bI, .int .i64 64] wx fun e w' => e = .returned (.tuple #[.int .u64 x, .agg #[.int .i64 0, .string (str []), .string (str [])]]) ∧ Below wx.heap.size wx w' by rw [hx, hbI]; exact P)
  by_cases hbig : 9223372036854775807 < n
  · have q1 : 9223372036854775807 < x := by omega
    rw [← hx, ← hbI] at S
    rw [← hkI] at Z
    rw [← hx, ← hbI, ← hkI]
    rw [← hbI] at g1 g2
    rw [← hkI] at g3 g4
    clear hE hx hbI hkI hu hbase hcount P Q1 Q2 i1 i2 hD hO hT hp ol tl l1 c1 c2 c3 c4 hbig
    go_enter Tryd.func7, Tryd.ntmps7
    go_wp2_with (first
      | (go_at_call 20; refine (Z.out _).mono ?_; rintro e w1 ⟨rfl, hw1⟩)
      | (go_at_call 13; refine (S.out _).mono ?_; rintro e w2 ⟨rfl, hw2⟩; have hb2 := hw1.trans (hw2.mono hw1.size))
      | (go_at_call 12; refine (PP.out w2 hb2).mono ?_; rintro e w3 ⟨rfl, hw3⟩; have hb3 := hb2.trans (hw3.mono hb2.size)))
    all_goals first | (exfalso; omega) | skip
    go_ret
    exact ⟨rfl, hb3.trans ((Below.refl _ _).alloc hb3.size _)⟩
  · have q1 : x ≤ 9223372036854775807 := by omega
    rw [i1 (by omega)] at Q1
    rw [i2 (by omega)] at Q2
    have QP := Lib.hid (show ∀ wx, Below w.heap.size w wx → Calls Tryd.prog 11 #[.string (str (43 :: T)), .int .i64 bI, .int .i64 64] wx fun e w' => e = .returned (.tuple #[.int .i64 x, .agg #[.int .i64 0, .string (str []), .string (str [])]]) ∧ Below wx.heap.size wx w' by rw [hx, hbI]; exact Q1)
    have QM := Lib.hid (show ∀ wx, Below w.heap.size w wx → Calls Tryd.prog 11 #[.string (str (45 :: T)), .int .i64 bI, .int .i64 64] wx fun e w' => e = .returned (.tuple #[.int .i64 (-x), .agg #[.int .i64 0, .string (str []), .string (str [])]]) ∧ Below wx.heap.size wx w' by rw [hx, hbI]; exact Q2)
    obtain ⟨TP, hTP⟩ : ∃ T', T' = 43 :: T := ⟨_, rfl⟩
    obtain ⟨TM, hTM⟩ : ∃ T', T' = 45 :: T := ⟨_, rfl⟩
    rw [← hTP] at QP d2
    rw [← hTM] at QM d3
    rw [← hx, ← hbI] at S
    rw [← hkI] at Z
    rw [← hx, ← hbI, ← hkI]
    rw [← hbI] at g1 g2
    rw [← hkI] at g3 g4
    clear hE hx hbI hkI hu hbase hcount P Q1 Q2 i1 i2 hD hO hT hp ol tl l1 c1 c2 c3 c4 hbig hTP hTM
    go_enter Tryd.func7, Tryd.ntmps7
    have tok0 : True := trivial
    go_wp2_with (first
      | (go_at_call 20; refine (Z.out _).mono ?_; rintro e w1 ⟨rfl, hw1⟩)
      | (go_at_call 13; refine (S.out _).mono ?_; rintro e w2 ⟨rfl, hw2⟩; have hb2 := hw1.trans (hw2.mono hw1.size))
      | (go_at_call 12; refine (PP.out w2 hb2).mono ?_; rintro e w3 ⟨rfl, hw3⟩; have hb3 := hb2.trans (hw3.mono hb2.size))
      | (go_at_call 11; have _t := tok0; clear tok0; refine (QP.out _ (hb3.trans ((Below.refl _ _).alloc hb3.size _))).mono ?_; rintro e w4 ⟨rfl, hw4⟩; have hb4 := (hb3.trans ((Below.refl _ _).alloc hb3.size _)).trans (hw4.mono (Nat.le_trans hb3.size (by simp))); have tok1 : True := trivial)
      | (go_at_call 11; have _t := tok1; clear tok1; refine (QM.out _ (hb4.trans ((Below.refl _ _).alloc hb4.size _))).mono ?_; rintro e w5 ⟨rfl, hw5⟩; have hb5 := (hb4.trans ((Below.refl _ _).alloc hb4.size _)).trans (hw5.mono (Nat.le_trans hb4.size (by simp))); obtain ⟨hc5, hf5⟩ := bcell2 hw5; have hs5 : w4.heap.size < w5.heap.size := Nat.lt_of_lt_of_le (by simp) hw5.size))
    all_goals first | (exfalso; omega) | skip
    go_ret
    exact ⟨by simp, hb5.trans ((Below.refl _ _).alloc hb5.size _)⟩
end Go.Proofs.YtlnokggbejfocaaDoor.fnZeros
