/-
  Contracts: FormatUint and FormatInt in every base from 2 to 36: internal/strconv's, strconv's and impl's.
-/
import Derived.Test.YthbnglkpkgpojaaDoorBits
import Derived.Lib.ItoaMem
namespace Go.Proofs.YthbnglkpkgpojaaDoor
set_option maxRecDepth 100000
open Go.RowKit Go.Sort
set_option linter.unusedVariables false
set_option linter.unusedSimpArgs false
/-- the tables that the formatting of numbers reads -/
def NumT (w : World) : Prop := Pow10T w ∧ BruT w
theorem NumT.below {w w' : World} (h : NumT w) (hb : Below w.heap.size w w') : NumT w' := ⟨h.1.below hb, h.2.below hb⟩
theorem pow2_of {b : Nat} (h : pow2B b = true) : ∃ k, b = 2 ^ k ∧ (k = 1 ∨ k = 2 ∨ k = 3 ∨ k = 4 ∨ k = 5) := by
  simp only [pow2B, Bool.or_eq_true, beq_iff_eq] at h
  rcases h with (((h | h) | h) | h) | h
  · exact ⟨1, by omega, by omega⟩
  · exact ⟨2, by omega, by omega⟩
  · exact ⟨3, by omega, by omega⟩
  · exact ⟨4, by omega, by omega⟩
  · exact ⟨5, by omega, by omega⟩
theorem bits_any (u0 b : Nat) (w : World) (h2 : 2 ≤ b) (h36 : b ≤ 36) (h10 : b ≠ 10) (hT : BruT w) (hu : u0 < 18446744073709551616) :
    Calls Tryd.prog 79 #[.slice none 0 0, .int .u64 u0, .int .i64 b, .bool false, .bool false] w fun e w' => e = .returned (.tuple #[.slice none 0 0, .string (str (digB b u0))]) ∧ Below w.heap.size w w' := by
  by_cases hp : pow2B b = true
  · obtain ⟨k, hk, hk5⟩ := pow2_of hp
    exact bits_pow u0 b w h2 h36 h10 k hk hk5 hT hu
  · exact bits_gen u0 b w h2 h36 h10 (by simpa using hp) hu
theorem bits_any_neg (u0 b : Nat) (w : World) (h2 : 2 ≤ b) (h36 : b ≤ 36) (h10 : b ≠ 10) (hT : BruT w) (hu : u0 < 18446744073709551616) (z : Int) (hneg : IntKind.u64.wrap (-z) = (u0 : Int)) :
    Calls Tryd.prog 79 #[.slice none 0 0, .int .u64 z, .int .i64 b, .bool true, .bool false] w fun e w' => e = .returned (.tuple #[.slice none 0 0, .string (str (45 :: digB b u0))]) ∧ Below w.heap.size w w' := by
  by_cases hp : pow2B b = true
  · obtain ⟨k, hk, hk5⟩ := pow2_of hp
    exact bits_pow_neg u0 b w h2 h36 h10 k hk hk5 hT hu z hneg
  · exact bits_gen_neg u0 b w h2 h36 h10 (by simpa using hp) hu z hneg
theorem zero24 (w : World) : (zeroValue 86).run Tryd.prog w = .ok (.agg Lib.zeros24) w := by kernel_rfl
theorem agg24 (w : World) : (isAgg 86).run Tryd.prog w = .ok true w := by kernel_rfl
theorem size24 (w : World) : (Go.sizeOf 86).run Tryd.prog w = .ok 24 w := by kernel_rfl
theorem slice24 (w : World) (n : Nat) (hn : n ≤ 24) (W : World) : (Instr.sliceAt 86 (.pointer (some ⟨w.heap.size, 0, none⟩)) none (some (.int .i64 (n : Int))) none).run Tryd.prog W = .ok (.slice (some ⟨w.heap.size, 0, none⟩) n 24) W := by
  have hal : Tryd.prog.arrayLen 86 = 24 := by kernel_rfl
  have hel : Tryd.prog.elem 86 = 5 := by kernel_rfl
  have hz : (Go.sizeOf 5).run Tryd.prog W = .ok 1 W := by kernel_rfl
  rw [run_sliceAt_array_h W 86 ⟨w.heap.size, 0, none⟩ Tryd.underlying86 .i64 (n : Int) (by omega) (by rw [hal]; omega), hal, hel, hz]
  simp only [Result.andThen_ok, slicedAt, Int.toNat_natCast, Nat.zero_mul, Lib.add_plain, Nat.add_zero, ite_self, Nat.sub_zero]
set_option maxHeartbeats 2000000 in
set_option maxRecDepth 100000 in
theorem iFormatUint_10 (u : Nat) (w : World) (hu : 100 ≤ u) (hu64 : u < 18446744073709551616) (htab : Pow10T w) :
    Calls Tryd.prog 67 #[.int .u64 u, .int .i64 10] w fun e w' => e = .returned (.string (str (Lib.decDigits u))) ∧ Below w.heap.size w w' := by
  have hu1 : 1 ≤ u := by omega
  have hnd20 : Lib.nDigits u ≤ 20 := by have := Lib.numDigits_eq u hu1 hu64; split at this <;> omega
  have hz := zero24
  have ha := agg24
  have hs := size24
  have hsl := slice24 w (Lib.nDigits u) (by omega)
  have hH0 := Lib.holds_zero0 w 86 (Lib.nDigits u) (by omega)
  have hfmt := Tryd.internal_strconv_formatBase10 w.heap.size 0 24 u (Array.replicate (Lib.nDigits u) 0) (w.alloc (.cells Lib.zeros24 86)) hH0 (by rw [Array.size_replicate]; exact Lib.lt_pow_nDigits u) hu64 (by rw [Array.size_replicate]; omega)
  rw [Array.size_replicate] at hfmt
  have HH0 := Lib.hid hH0
  have HF0 := Lib.hid hfmt
  have iu : (100 : Int) ≤ (u : Int) := by omega
  have HN := Lib.hid fun wx (hb : Below w.heap.size w wx) => Tryd.internal_strconv_numDigits u hu1 hu64 wx (htab.below hb)
  clear hH0 hfmt htab
  go_enter Tryd.func67, Tryd.ntmps67
  go_wp2_with (first
    | (go_at_call 77; refine (HN.out _ ((Below.refl _ _).alloc (Nat.le_refl _) _)).mono ?_; rintro e w' ⟨rfl, rfl⟩)
    | (go_at_call 78; refine HF0.out.mono ?_; rintro e w' ⟨rfl, k, v', dk, rfl, hF⟩; refine Hid.out ?_))
  refine Lib.hid ?_
  have hcv : (convert 39 9 (.slice (some ⟨w.heap.size, 0, none⟩) (Lib.nDigits u) 24)).run Tryd.prog ((putRow (fun (b : UInt8) => Value.int .u8 (b.toNat : Int)) (w.alloc (.cells Lib.zeros24 86)) w.heap.size 0 dk).drewN k) = .ok (.string ⟨(Lib.decDigits u).toArray⟩) ((putRow (fun (b : UInt8) => Value.int .u8 (b.toNat : Int)) (w.alloc (.cells Lib.zeros24 86)) w.heap.size 0 dk).drewN k) := by
    have h := run_convert_bytes_back (P := Tryd.prog) ((putRow (fun (b : UInt8) => Value.int .u8 (b.toNat : Int)) (w.alloc (.cells Lib.zeros24 86)) w.heap.size 0 dk).drewN k) 39 9 5 ⟨w.heap.size, 0, none⟩ 24 (Lib.decDigits u) Tryd.underlying39 Tryd.underlying5 Tryd.underlying9 (fun j hj => by
      rw [Lib.row_is_numeral hF j hj, Lib.add_plain, World.cell?_drewN]
      exact cell?_putRow (fun (b : UInt8) => Value.int .u8 (b.toNat : Int)) _ w.heap.size 0 _ dk HH0.out (by rw [hF.size, Array.size_replicate]) j (by rw [hF.size]; rw [Lib.decDigits_length] at hj; exact hj))
    rw [Lib.decDigits_length] at h
    exact h
  obtain ⟨os, eo⟩ := Lib.fin_at w (.cells Lib.zeros24 86) dk k 0
  have hbel : Hid (Below w.heap.size w ((putRow (fun (b : UInt8) => Value.int .u8 (b.toNat : Int)) (w.alloc (.cells Lib.zeros24 86)) w.heap.size 0 dk).drewN k)) := by rw [eo]; exact Lib.below_grow _ w (Nat.le_refl _) k os
  generalize (putRow (fun (b : UInt8) => Value.int .u8 (b.toNat : Int)) (w.alloc (.cells Lib.zeros24 86)) w.heap.size 0 dk).drewN k = W2 at hcv hbel ⊢
  clear eo HH0 HF0
  go_wp2
  go_ret
  exact ⟨rfl, hbel.out⟩
theorem iFormatUint_small (u : Nat) (w : World) (hu : u < 100) :
    Calls Tryd.prog 67 #[.int .u64 u, .int .i64 10] w fun e w' => e = .returned (.string (str (Lib.decDigits u))) ∧ Below w.heap.size w w' := by
  have C := Lib.hid fun wx => Tryd.internal_strconv_small u hu wx
  have iu : (u : Int) < 100 := by omega
  go_enter Tryd.func67, Tryd.ntmps67
  go_wp2_with (go_at_call 76; refine (C.out _).mono ?_; rintro e w' ⟨rfl, rfl⟩)
  go_ret
  exact ⟨rfl, Below.refl _ _⟩
theorem iFormatUint_any (u b : Nat) (w : World) (h2 : 2 ≤ b) (h36 : b ≤ 36) (hu : u < 18446744073709551616) (hT : NumT w) :
    Calls Tryd.prog 67 #[.int .u64 u, .int .i64 b] w fun e w' => e = .returned (.string (str (digB b u))) ∧ Below w.heap.size w w' := by
  by_cases h10 : b = 10
  · subst h10
    rw [digB_10]
    by_cases h : u < 100
    · exact iFormatUint_small u w h
    · exact iFormatUint_10 u w (by omega) hu hT.1
  · have C := Lib.hid (bits_any u b w h2 h36 h10 hT.2 hu)
    obtain ⟨L, hL⟩ : ∃ L, L = digB b u := ⟨_, rfl⟩
    rw [← hL] at C ⊢
    have g : ((b : Int) == 10) = false := by simp; omega
    clear hL hT h10
    go_enter Tryd.func67, Tryd.ntmps67
    go_wp2_with (go_at_call 79; refine C.out.mono ?_; rintro e w' ⟨rfl, hw⟩)
    go_ret
    exact ⟨rfl, hw⟩
theorem sFormatUint_any (u b : Nat) (w : World) (h2 : 2 ≤ b) (h36 : b ≤ 36) (hu : u < 18446744073709551616) (hT : NumT w) :
    Calls Tryd.prog 51 #[.int .u64 u, .int .i64 b] w fun e w' => e = .returned (.string (str (digB b u))) ∧ Below w.heap.size w w' := by
  have C := Lib.hid (iFormatUint_any u b w h2 h36 hu hT)
  obtain ⟨L, hL⟩ : ∃ L, L = digB b u := ⟨_, rfl⟩
  rw [← hL] at C ⊢
  clear hL hT
  go_enter Tryd.func51, Tryd.ntmps51
  go_wp2_with (go_at_call 67; refine C.out.mono ?_; rintro e w1 ⟨rfl, hw⟩)
  go_ret
  exact ⟨rfl, hw⟩
theorem FormatUint_any (u b : Nat) (w : World) (h2 : 2 ≤ b) (h36 : b ≤ 36) (hu : u < 18446744073709551616) (hT : NumT w) :
    Calls Tryd.prog 30 #[.int .u64 u, .int .i64 b] w fun e w' => e = .returned (.string (str (digB b u))) ∧ Below w.heap.size w w' := by
  have C := Lib.hid (sFormatUint_any u b w h2 h36 hu hT)
  obtain ⟨L, hL⟩ : ∃ L, L = digB b u := ⟨_, rfl⟩
  rw [← hL] at C ⊢
  clear hL hT
  go_enter Tryd.func30, Tryd.ntmps30
  go_wp2_with (go_at_call 51; refine C.out.mono ?_; rintro e w1 ⟨rfl, hw⟩)
  go_ret
  exact ⟨rfl, hw⟩
theorem iFormatInt_any (i : Int) (b : Nat) (w : World) (h2 : 2 ≤ b) (h36 : b ≤ 36) (h0 : -9223372036854775808 ≤ i) (h1 : i ≤ 9223372036854775807) (hT : NumT w) :
    Calls Tryd.prog 59 #[.int .i64 i, .int .i64 b] w fun e w' => e = .returned (.string (str (fmtI b i))) ∧ Below w.heap.size w w' := by
  by_cases h10 : b = 10
  · subst h10
    exact (Tryd.internal_strconv_FormatInt_10 i h0 h1 w hT.1).mono fun e w' ⟨h, k, os, hw⟩ => ⟨by rw [h, fmtI_10]; rfl, by rw [hw]; exact Lib.below_grow _ w (Nat.le_refl _) k os⟩
  · have g : ((b : Int) == 10) = false := by simp; omega
    by_cases hi : i < 0
    · have hwr : IntKind.u64.wrap i = i + 18446744073709551616 := by rw [IntKind.wrap_u64]; omega
      have C := Lib.hid (bits_any_neg i.natAbs b w h2 h36 h10 hT.2 (by omega) (i + 18446744073709551616) (by rw [IntKind.wrap_u64]; omega))
      have HF := Lib.hid (show fmtI b i = 45 :: digB b i.natAbs by rw [fmtI, if_pos hi])
      have hd : decide (i < 0) = true := by simp [hi]
      obtain ⟨L, hL⟩ : ∃ L, L = 45 :: digB b i.natAbs := ⟨_, rfl⟩
      rw [← hL] at C HF
      clear hL hT h10
      go_enter Tryd.func59, Tryd.ntmps59
      go_wp2_with (go_at_call 79; refine C.out.mono ?_; rintro e w' ⟨rfl, hw⟩)
      go_ret
      exact ⟨by rw [HF.out]; rfl, hw⟩
    · have hwr : IntKind.u64.wrap i = i := by rw [IntKind.wrap_u64]; omega
      have C0 := bits_any i.toNat b w h2 h36 h10 hT.2 (by omega)
      rw [show ((i.toNat : Nat) : Int) = i by omega] at C0
      have C := Lib.hid C0
      clear C0
      have HF := Lib.hid (show fmtI b i = digB b i.toNat by rw [fmtI, if_neg hi])
      have hd : decide (i < 0) = false := by simp; omega
      obtain ⟨L, hL⟩ : ∃ L, L = digB b i.toNat := ⟨_, rfl⟩
      rw [← hL] at C HF
      clear hL hT h10
      go_enter Tryd.func59, Tryd.ntmps59
      go_wp2_with (go_at_call 79; refine C.out.mono ?_; rintro e w' ⟨rfl, hw⟩)
      go_ret
      exact ⟨by rw [HF.out]; rfl, hw⟩
theorem sFormatInt_any (i : Int) (b : Nat) (w : World) (h2 : 2 ≤ b) (h36 : b ≤ 36) (h0 : -9223372036854775808 ≤ i) (h1 : i ≤ 9223372036854775807) (hT : NumT w) :
    Calls Tryd.prog 41 #[.int .i64 i, .int .i64 b] w fun e w' => e = .returned (.string (str (fmtI b i))) ∧ Below w.heap.size w w' := by
  have C := Lib.hid (iFormatInt_any i b w h2 h36 h0 h1 hT)
  obtain ⟨L, hL⟩ : ∃ L, L = fmtI b i := ⟨_, rfl⟩
  rw [← hL] at C ⊢
  clear hL hT
  go_enter Tryd.func41, Tryd.ntmps41
  go_wp2_with (go_at_call 59; refine C.out.mono ?_; rintro e w1 ⟨rfl, hw⟩)
  go_ret
  exact ⟨rfl, hw⟩
theorem FormatInt_any (i : Int) (b : Nat) (w : World) (h2 : 2 ≤ b) (h36 : b ≤ 36) (h0 : -9223372036854775808 ≤ i) (h1 : i ≤ 9223372036854775807) (hT : NumT w) :
    Calls Tryd.prog 23 #[.int .i64 i, .int .i64 b] w fun e w' => e = .returned (.string (str (fmtI b i))) ∧ Below w.heap.size w w' := by
  have C := Lib.hid (sFormatInt_any i b w h2 h36 h0 h1 hT)
  obtain ⟨L, hL⟩ : ∃ L, L = fmtI b i := ⟨_, rfl⟩
  rw [← hL] at C ⊢
  clear hL hT
  go_enter Tryd.func23, Tryd.ntmps23
  go_wp2_with (go_at_call 41; refine C.out.mono ?_; rintro e w1 ⟨rfl, hw⟩)
  go_ret
  exact ⟨rfl, hw⟩
end Go.Proofs.YthbnglkpkgpojaaDoor
