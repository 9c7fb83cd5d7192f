/-
  The walk of laws.FnPrefixes: it returns true.
-/
import Derived.Test.YtlnokggbejfocaaDoorParse
import Derived.Test.YtlnokggbejfocaaDoorPlainFive
import Derived.Test.YtlnokggbejfocaaDoorSpecFormat
import Derived.Outline
namespace Go.Proofs.YtlnokggbejfocaaDoor.fnPrefixes
open Go.RowKit
set_option maxRecDepth 100000
set_option linter.unusedVariables false
set_option linter.unusedSimpArgs false
theorem wf_u64' {x : Int} (h : (Lit.int .u64 x).wf = true) : 0 ≤ x ∧ x ≤ 18446744073709551615 := by simpa [Lit.wf, IntKind.min, IntKind.max, IntKind.signed, IntKind.bits] using h
theorem cells5 (w : World) (T : TypeId) (a b c d e : List UInt8) (k : Nat) (hk : k < 5) : ∃ x, x ∈ [a, b, c, d, e] ∧ (k < 2 → x ∈ [a, b]) ∧ (w.alloc (.cells #[.string (str a), .string (str b), .string (str c), .string (str d), .string (str e)] T)).cell? ⟨w.heap.size, k, none⟩ = some (.string (str x)) := by
  refine ⟨[a, b, c, d, e][k]'hk, List.getElem_mem _, ?_, ?_⟩
  · intro h
    have : k = 0 ∨ k = 1 := by omega
    rcases this with rfl | rfl <;> simp
  · rw [World.cell?_alloc_new]
    have : k = 0 ∨ k = 1 ∨ k = 2 ∨ k = 3 ∨ k = 4 := by omega
    rcases this with rfl | rfl | rfl | rfl | rfl <;> rfl
set_option maxHeartbeats 8000000 in
theorem walk (w : World) (u : Int) (hu : (Lit.int .u64 u).wf = true) (hL : laidMetH Tryd.prog Rows.fnPrefixesRow.laid w) :
    Calls Tryd.prog 4 #[.int .u64 u] w fun e w' => e = .returned (.bool true) ∧ Below w.heap.size w w' := by
  obtain ⟨aS, aR, hE⟩ := errT_of hL (by kernel_rfl) (by simp [Rows.fnPrefixesRow, Rows.laid_strconv_ErrSyntax, synText]) (by simp [Rows.fnPrefixesRow, Rows.laid_strconv_ErrRange, rngText])
  have hu := wf_u64' hu
  clear hL
  obtain ⟨n, rfl⟩ : ∃ n : Nat, u = n := ⟨u.toNat, by omega⟩
  have S2 := Lib.hid (fun wx => specFormatUint_any n 2 wx (by omega) (by omega) (by omega))
  have S8 := Lib.hid (fun wx => specFormatUint_any n 8 wx (by omega) (by omega) (by omega))
  have S16 := Lib.hid (fun wx => specFormatUint_any n 16 wx (by omega) (by omega) (by omega))
  have S10 := Lib.hid (fun wx => specFormatUint_any n 10 wx (by omega) (by omega) (by omega))
  have l2 := digB_length_64 (b := 2) (u := n) (by omega) (by omega)
  have l8 := digB_length_64 (b := 8) (u := n) (by omega) (by omega)
  have l10 := digB_length_64 (b := 10) (u := n) (by omega) (by omega)
  have l16 := digB_length_64 (b := 16) (u := n) (by omega) (by omega)
  have h5 := five n (by omega)
  have hbad : ∀ t ∈ [48 :: 98 :: digB 2 n, 48 :: 111 :: digB 8 n], pUe t 10 64 = (0, 2) := by
    intro t ht
    simp only [List.mem_cons, List.not_mem_nil, or_false] at ht
    rcases ht with rfl | rfl
    · exact pUe_bad (b := 10) (by omega) (by omega) [48] (digB 2 n) 98 (by decide) (by decide) (by decide)
    · exact pUe_bad (b := 10) (by omega) (by omega) [48] (digB 8 n) 111 (by decide) (by decide) (by decide)
  obtain ⟨x, hx⟩ : ∃ x : Int, x = (n : Int) := ⟨_, rfl⟩
  have PG := Lib.hid (show ∀ t, t ∈ [48 :: 98 :: digB 2 n, 48 :: 111 :: digB 8 n, 48 :: digB 8 n, 48 :: 120 :: digB 16 n, digB 10 n] → (∀ wx, Below w.heap.size w wx → Calls Tryd.prog 12 #[.string (str t), .int .i64 0, .int .i64 64] wx fun e w' => e = .returned (.tuple #[.int .u64 x, .agg #[.int .i64 0, .string (str []), .string (str [])]]) ∧ Below wx.heap.size wx w') ∧ t.length ≤ 70 from fun t ht => ⟨fun wx hb => by
    have h := ParseUint_any t 0 64 wx (.inl rfl) (by omega) (by omega) (by have := (h5 t ht).2.1; omega) aS aR (hE.below hb)
    rw [show (0 : Int).toNat = 0 by rfl, show (64 : Int).toNat = 64 by rfl, (h5 t ht).1] at h
    rw [hx]; exact h, (h5 t ht).2.1⟩)
  have PM := Lib.hid (show n ≤ 9223372036854775807 → ∀ t, t ∈ [48 :: 98 :: digB 2 n, 48 :: 111 :: digB 8 n, 48 :: digB 8 n, 48 :: 120 :: digB 16 n, digB 10 n] → ∀ wx, Below w.heap.size w wx → Calls Tryd.prog 11 #[.string (str (45 :: t)), .int .i64 0, .int .i64 64] wx fun e w' => e = .returned (.tuple #[.int .i64 (-x), .agg #[.int .i64 0, .string (str []), .string (str [])]]) ∧ Below wx.heap.size wx w' from fun hn t ht wx hb => by
    have h := ParseInt_any (45 :: t) 0 64 wx (.inl rfl) (by omega) (by omega) (by have := (h5 t ht).2.1; simp; omega) aS aR (hE.below hb)
    rw [show (0 : Int).toNat = 0 by rfl, show (64 : Int).toNat = 64 by rfl, pIe_minus64 (h5 t ht).1 hn] at h
    rw [hx]; exact h)
  have PB := Lib.hid (show ∀ t, t ∈ [48 :: 98 :: digB 2 n, 48 :: 111 :: digB 8 n] → ∀ wx, Below w.heap.size w wx → Calls Tryd.prog 12 #[.string (str t), .int .i64 10, .int .i64 64] wx fun e w' => e = .returned (.tuple #[.int .u64 0, .agg #[.int .i64 1, .string (str puText), .string (str t)]]) ∧ Below wx.heap.size wx w' from fun t ht wx hb => by
    have h := ParseUint_any t 10 64 wx (.inr (by omega)) (by omega) (by omega) (by have := (h5 t (by simp only [List.mem_cons, List.not_mem_nil, or_false] at ht ⊢; rcases ht with h | h <;> simp [h])).2.1; omega) aS aR (hE.below hb)
    rw [show (10 : Int).toNat = 10 by rfl, show (64 : Int).toNat = 64 by rfl, hbad t ht] at h
    exact h)
  obtain ⟨D2, hD2⟩ : ∃ D, D = digB 2 n := ⟨_, rfl⟩
  obtain ⟨D8, hD8⟩ : ∃ D, D = digB 8 n := ⟨_, rfl⟩
  obtain ⟨D10, hD10⟩ : ∃ D, D = digB 10 n := ⟨_, rfl⟩
  obtain ⟨D16, hD16⟩ : ∃ D, D = digB 16 n := ⟨_, rfl⟩
  rw [← hD2] at S2 PG PM PB l2
  rw [← hD8] at S8 PG PM PB l8
  rw [← hD10] at S10 PG PM l10
  rw [← hD16] at S16 PG PM l16
  have c1 : (ByteArray.mk #[48, 98]) ++ str D2 = str (48 :: 98 :: D2) := str_append [48, 98] D2
  have c2 : (ByteArray.mk #[48, 111]) ++ str D8 = str (48 :: 111 :: D8) := str_append [48, 111] D8
  have c3 : (ByteArray.mk #[48]) ++ str D8 = str (48 :: D8) := str_append [48] D8
  have c4 : (ByteArray.mk #[48, 120]) ++ str D16 = str (48 :: 120 :: D16) := str_append [48, 120] D16
  have s1 : ¬ 9223372036854775807 < (str [48, 98]).size + (str D2).size := by rw [size_str, size_str]; simp; omega
  have s2 : ¬ 9223372036854775807 < (str [48, 111]).size + (str D8).size := by rw [size_str, size_str]; simp; omega
  have s3 : ¬ 9223372036854775807 < (str [48]).size + (str D8).size := by rw [size_str, size_str]; simp; omega
  have s4 : ¬ 9223372036854775807 < (str [48, 120]).size + (str D16).size := by rw [size_str, size_str]; simp; omega
  obtain ⟨T1, hT1⟩ : ∃ T, T = 48 :: 98 :: D2 := ⟨_, rfl⟩
  obtain ⟨T2, hT2⟩ : ∃ T, T = 48 :: 111 :: D8 := ⟨_, rfl⟩
  obtain ⟨T3, hT3⟩ : ∃ T, T = 48 :: D8 := ⟨_, rfl⟩
  obtain ⟨T4, hT4⟩ : ∃ T, T = 48 :: 120 :: D16 := ⟨_, rfl⟩
  rw [← hT1] at c1
  rw [← hT2] at c2
  rw [← hT3] at c3
  rw [← hT4] at c4
  rw [← hT1, ← hT2, ← hT3, ← hT4] at PG PM
  rw [← hT1, ← hT2] at PB
  rw [← hx] at S2 S8 S10 S16 ⊢
  have x0 : 0 ≤ x := by omega
  have x1 : x ≤ 18446744073709551615 := by omega
  have HX := Lib.hid hx
  clear hx hE hu h5 hbad hT1 hT2 hT3 hT4 hD2 hD8 hD10 hD16 l2 l8 l10 l16
  go_enter Tryd.func4, Tryd.ntmps4
  have tok1 : True := trivial
  go_wp2_with (first
    | (go_at_call 13; have _t := tok1; clear tok1; refine (S2.out w).mono ?_; rintro e w1 ⟨rfl, hw1⟩; have tok2 : True := trivial)
    | (go_at_call 13; have _t := tok2; clear tok2; refine (S8.out w1).mono ?_; rintro e w2 ⟨rfl, hw2⟩; have hb2 := hw1.trans (hw2.mono hw1.size); have tok3 : True := trivial)
    | (go_at_call 13; have _t := tok3; clear tok3; refine (S8.out w2).mono ?_; rintro e w3 ⟨rfl, hw3⟩; have hb3 := hb2.trans (hw3.mono hb2.size); have tok4 : True := trivial)
    | (go_at_call 13; have _t := tok4; clear tok4; refine (S16.out w3).mono ?_; rintro e w4 ⟨rfl, hw4⟩; have hb4 := hb3.trans (hw4.mono hb3.size); have tok5 : True := trivial)
    | (go_at_call 13; have _t := tok5; clear tok5; refine (S10.out w4).mono ?_; rintro e w7 ⟨rfl, hw7⟩; have hb7 := hb4.trans (hw7.mono hb4.size)))
  clear S2 S8 S10 S16
  go_loopw [31] (fun vk wr => ∃ k : Nat, vk = .int .i64 k ∧ k ≤ 5 ∧ Hid (Below (w7.heap.size + 1) (w7.alloc (.cells #[.string (str T1), .string (str T2), .string (str T3), .string (str T4), .string (str D10)] 9)) wr)) (fun vk _ => 5 - (intOf vk).toNat)
  case atStart => exact ⟨0, rfl, by omega, Below.refl _ _⟩
  case round =>
    obtain ⟨k, rfl, hk, hB⟩ := hrel
    have hbr : Below w.heap.size w wr := (hb7.trans ((Below.refl _ _).alloc hb7.size _)).trans (hB.out.mono (Nat.le_trans hb7.size (Nat.le_succ _)))
    have hsz : w7.heap.size + 1 ≤ wr.heap.size := by have := hB.out.size; simpa using this
    by_cases hlt : k < 5
    · obtain ⟨t, ht, _, hcell0⟩ := cells5 w7 9 T1 T2 T3 T4 D10 k hlt
      have hcell : wr.cell? ⟨w7.heap.size, k, none⟩ = some (.string (str t)) := by rw [hB.out.cell (p := ⟨w7.heap.size, k, none⟩) (by simp)]; exact hcell0
      obtain ⟨PL0, htl⟩ := PG.out t ht
      have PL := Lib.hid (PL0 wr hbr)
      clear PL0
      by_cases hbig : 9223372036854775807 < x
      · clear ht hcell0 htl
        go_wp2_with (go_at_call 12; refine PL.out.mono ?_; rintro e w8 ⟨rfl, hw8⟩)
        all_goals first | (exfalso; omega) | skip
        go_roundw
        case rel => exact ⟨k + 1, by go_num, by omega, hB.out.trans ((hw8.mono hsz).trans ((Below.refl _ _).alloc (Nat.le_trans hsz hw8.size) _))⟩
        case measure => simp [intOf]; omega
      · have PN := Lib.hid (PM.out (by have := HX.out; omega) t ht)
        have hsm : x ≤ 9223372036854775807 := by omega
        have d1 : (ByteArray.mk #[45]) ++ str t = str (45 :: t) := str_append [45] t
        have r1 : ¬ 9223372036854775807 < (str [45]).size + (str t).size := by rw [size_str, size_str]; simp; omega
        obtain ⟨TM, hTM⟩ : ∃ X, X = 45 :: t := ⟨_, rfl⟩
        rw [← hTM] at PN d1
        clear ht hcell0 htl hbig hTM
        go_wp2_with (first
          | (go_at_call 12; refine PL.out.mono ?_; rintro e w8 ⟨rfl, hw8⟩; have hb8 := hbr.trans (hw8.mono hbr.size))
          | (go_at_call 11; refine (PN.out _ (hb8.trans ((Below.refl _ _).alloc hb8.size _))).mono ?_; rintro e w9 ⟨rfl, hw9⟩; have hs9 : w7.heap.size + 1 ≤ w9.heap.size := Nat.le_trans hsz (Nat.le_trans hw8.size (Nat.le_trans (by simp) hw9.size))))
        all_goals first | (exfalso; omega) | skip
        go_roundw
        case rel => exact ⟨k + 1, by go_num, by omega, ((hB.out.trans ((hw8.mono hsz).trans ((Below.refl _ _).alloc (Nat.le_trans hsz hw8.size) _))).trans (hw9.mono (Nat.le_trans hsz (Nat.le_trans hw8.size (by simp))))).trans ((Below.refl _ _).alloc hs9 _)⟩
        case measure => simp [intOf]; omega
    · have hB0 := hB
      have hcells := Lib.hid (show ∀ j, j < 2 → ∃ t, t ∈ [T1, T2] ∧ wr.cell? ⟨w7.heap.size, j, none⟩ = some (.string (str t)) from fun j hj => by
        obtain ⟨t, _, ht, hcell0⟩ := cells5 w7 9 T1 T2 T3 T4 D10 j (by omega)
        exact ⟨t, ht hj, by rw [hB.out.cell (p := ⟨w7.heap.size, j, none⟩) (by simp)]; exact hcell0⟩)
      obtain ⟨wo, rfl⟩ : ∃ wo : World, wo = wr := ⟨_, rfl⟩
      go_wp2_with fail
      go_loopw [70] (fun vk wr => ∃ k : Nat, vk = .int .i64 k ∧ k ≤ 2 ∧ Hid (Below wo.heap.size wo wr)) (fun vk _ => 2 - (intOf vk).toNat)
      case atStart => exact ⟨0, rfl, by omega, Below.refl _ _⟩
      case round =>
        obtain ⟨k2, rfl, hk2, hB2⟩ := hrel
        have hbr2 : Below w.heap.size w wr := hbr.trans (hB2.out.mono hbr.size)
        by_cases hlt2 : k2 < 2
        · obtain ⟨t, ht, hcell0⟩ := hcells.out k2 hlt2
          have hcell : wr.cell? ⟨w7.heap.size, k2, none⟩ = some (.string (str t)) := by rw [hB2.out.cell (p := ⟨w7.heap.size, k2, none⟩) (by simp only; omega)]; exact hcell0
          have PL := Lib.hid (PB.out t ht wr hbr2)
          clear ht hcell0
          go_wp2_with (go_at_call 12; refine PL.out.mono ?_; rintro e w8 ⟨rfl, hw8⟩)
          go_roundw
          case rel => exact ⟨k2 + 1, by go_num, by omega, hB2.out.trans ((hw8.mono hB2.out.size).trans ((Below.refl _ _).alloc (Nat.le_trans hB2.out.size hw8.size) _))⟩
          case measure => simp [intOf]; omega
        · go_wp2_with fail
          go_ret
          exact ⟨rfl, hbr2⟩
end Go.Proofs.YtlnokggbejfocaaDoor.fnPrefixes
