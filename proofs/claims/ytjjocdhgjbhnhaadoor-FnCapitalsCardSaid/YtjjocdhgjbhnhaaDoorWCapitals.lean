/-
  The walk of laws.FnCapitals: it returns true.
-/
import Derived.Test.YtjjocdhgjbhnhaaDoorParse
import Derived.Test.YtjjocdhgjbhnhaaDoorPlainDigit
import Derived.Test.YtjjocdhgjbhnhaaDoorCapitals
import Derived.Test.YtjjocdhgjbhnhaaDoorSpecFormat
import Derived.Outline
namespace Go.Proofs.YtjjocdhgjbhnhaaDoor.fnCapitals
open Go.RowKit
set_option maxRecDepth 100000
set_option linter.unusedVariables false
theorem wf_i64' {x : Int} (h : (Lit.int .i64 x).wf = true) : -9223372036854775808 ≤ x ∧ x ≤ 9223372036854775807 := by simpa [Lit.wf, IntKind.min, IntKind.max, IntKind.signed, IntKind.bits] using h
theorem wf_u64' {x : Int} (h : (Lit.int .u64 x).wf = true) : 0 ≤ x ∧ x ≤ 18446744073709551615 := by simpa [Lit.wf, IntKind.min, IntKind.max, IntKind.signed, IntKind.bits] using h
theorem base_cases' (b : Int) : b < 2 ∨ 36 < b ∨ ∃ n : Nat, b = n ∧ 2 ≤ n ∧ n ≤ 36 := by
  by_cases h : b < 2
  · exact .inl h
  · by_cases h2 : 36 < b
    · exact .inr (.inl h2)
    · exact .inr (.inr ⟨b.toNat, by omega, by omega, by omega⟩)
theorem digN_upC (c : UInt8) : digN (upC c) = digN c := by
  have h := up_fin ⟨c.toNat, c.toNat_lt⟩
  simp only [UInt8.ofNat_toNat] at h
  exact h
theorem cells3 (w : World) (T : TypeId) (a b c : ByteArray) (k : Nat) (hk : k < 3) : ∃ x, [a, b, c][k]? = some x ∧ (w.alloc (.cells #[.string a, .string b, .string c] T)).cell? ⟨w.heap.size, k, none⟩ = some (.string x) := by
  refine ⟨[a, b, c][k]'hk, List.getElem?_eq_getElem hk, ?_⟩
  rw [World.cell?_alloc_new]
  have : k = 0 ∨ k = 1 ∨ k = 2 := by omega
  rcases this with rfl | rfl | rfl <;> rfl
/-- the three texts are read as u -/
theorem three (u : Nat) (hu : u < 18446744073709551616) : ∀ t ∈ [48 :: 66 :: digB 2 u, 48 :: 79 :: digB 8 u, 48 :: 88 :: (digB 16 u).map upC], pUe t 0 64 = (u, 0) ∧ t.length ≤ 70 := by
  intro t ht
  have e64 : (2 : Nat) ^ (if (64 : Nat) = 0 then 64 else 64) - 1 = 18446744073709551615 := by decide
  simp only [List.mem_cons, List.not_mem_nil, or_false] at ht
  rcases ht with rfl | rfl | rfl
  · refine ⟨?_, by have := digB_length_64 (b := 2) (u := u) (by omega) hu; simp; omega⟩
    rw [pUe_pre (pre_b (by decide) digB_ne) (by simp) (by omega) (by omega) (digB_lt_b (by omega) (by omega) u), foldV_digB (by omega) (by omega), e64, if_pos (by omega)]
  · refine ⟨?_, by have := digB_length_64 (b := 8) (u := u) (by omega) hu; simp; omega⟩
    rw [pUe_pre (pre_o (by decide) digB_ne) (by simp) (by omega) (by omega) (digB_lt_b (by omega) (by omega) u), foldV_digB (by omega) (by omega), e64, if_pos (by omega)]
  · refine ⟨?_, by have := digB_length_64 (b := 16) (u := u) (by omega) hu; simp; omega⟩
    rw [pUe_pre (pre_x (by decide) (by simp [digB_ne])) (by simp) (by omega) (by omega) (fun c hc => by obtain ⟨x, hx, rfl⟩ := List.mem_map.1 hc; rw [digN_upC]; exact digB_lt_b (by omega) (by omega) u x hx), foldV_map upC digN_upC, foldV_digB (by omega) (by omega), e64, if_pos (by omega)]
set_option maxHeartbeats 4000000 in
theorem walk (w : World) (u : Int) (hu : (Lit.int .u64 u).wf = true) (base : Int) (hbase : (Lit.int .i64 base).wf = true) (hL : laidMetH Tryd.prog Rows.fnCapitalsRow.laid w) :
    Calls Tryd.prog 6 #[.int .u64 u, .int .i64 base] w fun e w' => e = .returned (.bool true) ∧ Below w.heap.size w w' := by
  obtain ⟨aS, aR, hE⟩ := errT_of hL (by kernel_rfl) (by simp [Rows.fnCapitalsRow, Rows.laid_strconv_ErrSyntax, synText]) (by simp [Rows.fnCapitalsRow, Rows.laid_strconv_ErrRange, rngText])
  have hu := wf_u64' hu
  have hbase := wf_i64' hbase
  clear hL
  rcases base_cases' base with h | h | ⟨b, rfl, h2, h36⟩
  · have g1 : decide (base < 2) = true := by simpa using h
    go_enter Tryd.func6, Tryd.ntmps6
    go_wp2_with fail
    go_ret
    exact ⟨rfl, Below.refl _ _⟩
  · have g1 : decide (base < 2) = false := by simp; omega
    have g2 : decide (36 < base) = true := by simpa using h
    go_enter Tryd.func6, Tryd.ntmps6
    go_wp2_with fail
    go_ret
    exact ⟨rfl, Below.refl _ _⟩
  · obtain ⟨n, rfl⟩ : ∃ n : Nat, u = n := ⟨u.toNat, by omega⟩
    have g1 : decide ((b : Int) < 2) = false := by simp; omega
    have g2 : decide (36 < (b : Int)) = false := by simp; omega
    have S := Lib.hid (fun wx => specFormatUint_any n b wx h2 h36 (by omega))
    have S2 := Lib.hid (fun wx => specFormatUint_any n 2 wx (by omega) (by omega) (by omega))
    have S8 := Lib.hid (fun wx => specFormatUint_any n 8 wx (by omega) (by omega) (by omega))
    have S16 := Lib.hid (fun wx => specFormatUint_any n 16 wx (by omega) (by omega) (by omega))
    have l1 := digB_length_64 (b := b) (u := n) h2 (by omega)
    have l2 := digB_length_64 (b := 2) (u := n) (by omega) (by omega)
    have l8 := digB_length_64 (b := 8) (u := n) (by omega) (by omega)
    have l16 := digB_length_64 (b := 16) (u := n) (by omega) (by omega)
    have C := Lib.hid (fun wx => capitals_any (digB b n) wx (by omega))
    have C16 := Lib.hid (fun wx => capitals_any (digB 16 n) wx (by omega))
    have P := fun wx (hb : Below w.heap.size w wx) => ParseUint_any ((digB b n).map upC) (b : Int) 64 wx (.inr (by omega)) (by omega) (by omega) (by simp; omega) aS aR (hE.below hb)
    rw [show ((b : Int)).toNat = b by omega, show (64 : Int).toNat = 64 by rfl, pUe_map h2 h36 upC digN_upC, if_neg (show ¬ (64 : Nat) = 0 by decide), if_pos (by omega)] at P
    have P0 := fun (t : List UInt8) (ht : t ∈ [48 :: 66 :: digB 2 n, 48 :: 79 :: digB 8 n, 48 :: 88 :: (digB 16 n).map upC]) wx (hb : Below w.heap.size w wx) => ParseUint_any t 0 64 wx (.inl rfl) (by omega) (by omega) (by have := (three n (by omega) t ht).2; omega) aS aR (hE.below hb)
    have three' := three n (by omega)
    obtain ⟨x, hx⟩ : ∃ x : Int, x = (n : Int) := ⟨_, rfl⟩
    obtain ⟨bI, hbI⟩ : ∃ bI : Int, bI = (b : Int) := ⟨_, rfl⟩
    have PP := Lib.hid (show ∀ wx, Below w.heap.size w wx → Calls Tryd.prog 21 #[.string (str ((digB b n).map upC)), .int .i64 bI, .int .i64 64] wx fun e w' => e = .returned (.tuple #[.int .u64 x, .agg #[.int .i64 0, .string (str []), .string (str [])]]) ∧ Below wx.heap.size wx w' by rw [hx, hbI]; exact P)
    have PT := Lib.hid (show ∀ t, t ∈ [48 :: 66 :: digB 2 n, 48 :: 79 :: digB 8 n, 48 :: 88 :: (digB 16 n).map upC] → ∀ wx, Below w.heap.size w wx → Calls Tryd.prog 21 #[.string (str t), .int .i64 0, .int .i64 64] wx fun e w' => e = .returned (.tuple #[.int .u64 x, .agg #[.int .i64 0, .string (str []), .string (str [])]]) ∧ Below wx.heap.size wx w' from fun t ht wx hb => by
      have h := P0 t ht wx hb
      rw [show (0 : Int).toNat = 0 by rfl, show (64 : Int).toNat = 64 by rfl, (three' t ht).1] at h
      rw [hx]; exact h)
    obtain ⟨A, hA⟩ : ∃ A, A = digB b n := ⟨_, rfl⟩
    obtain ⟨A2, hA2⟩ : ∃ A, A = digB 2 n := ⟨_, rfl⟩
    obtain ⟨A8, hA8⟩ : ∃ A, A = digB 8 n := ⟨_, rfl⟩
    obtain ⟨A16, hA16⟩ : ∃ A, A = digB 16 n := ⟨_, rfl⟩
    rw [← hA] at PP S C
    rw [← hA2, ← hA8, ← hA16] at PT
    rw [← hA2] at S2
    rw [← hA8] at S8
    rw [← hA16] at S16 C16
    obtain ⟨U, hU⟩ : ∃ U, U = A.map upC := ⟨_, rfl⟩
    obtain ⟨U16, hU16⟩ : ∃ U, U = A16.map upC := ⟨_, rfl⟩
    rw [← hU] at PP C
    rw [← hU16] at PT C16
    have c1 : (ByteArray.mk #[48, 66]) ++ str A2 = str (48 :: 66 :: A2) := str_append [48, 66] A2
    have c2 : (ByteArray.mk #[48, 79]) ++ str A8 = str (48 :: 79 :: A8) := str_append [48, 79] A8
    have c3 : (ByteArray.mk #[48, 88]) ++ str U16 = str (48 :: 88 :: U16) := str_append [48, 88] U16
    have s1 : ¬ 9223372036854775807 < (str [48, 66]).size + (str A2).size := by rw [size_str, size_str, hA2]; simp; omega
    have s2 : ¬ 9223372036854775807 < (str [48, 79]).size + (str A8).size := by rw [size_str, size_str, hA8]; simp; omega
    have s3 : ¬ 9223372036854775807 < (str [48, 88]).size + (str U16).size := by rw [size_str, size_str, hU16, hA16]; simp; omega
    obtain ⟨T1, hT1⟩ : ∃ T, T = 48 :: 66 :: A2 := ⟨_, rfl⟩
    obtain ⟨T2, hT2⟩ : ∃ T, T = 48 :: 79 :: A8 := ⟨_, rfl⟩
    obtain ⟨T3, hT3⟩ : ∃ T, T = 48 :: 88 :: U16 := ⟨_, rfl⟩
    rw [← hT1] at c1
    rw [← hT2] at c2
    rw [← hT3] at c3
    rw [← hT1, ← hT2, ← hT3] at PT
    rw [← hbI] at g1 g2 S ⊢
    rw [← hx] at S S2 S8 S16 ⊢
    clear hE hx hbI hu hbase P P0 three' hA hA2 hA8 hA16 hU hU16 hT1 hT2 hT3
    go_enter Tryd.func6, Tryd.ntmps6
    go_wp2_with (first
      | (go_at_call 20; with_reducible refine (S.out w).mono ?_; rintro e w1 ⟨rfl, hw1⟩; clear S; have tok1 : True := trivial)
      | (go_at_call 19; have _t := tok1; refine (C.out w1).mono ?_; rintro e w2 ⟨rfl, hw2⟩; have hb2 := hw1.trans (hw2.mono hw1.size); clear C tok1)
      | (go_at_call 21; refine (PP.out w2 hb2).mono ?_; rintro e w3 ⟨rfl, hw3⟩; have hb3 := (hb2.trans (hw3.mono hb2.size)); clear PP; refine Hid.out ?_))
    refine Lib.hid ?_
    have tok2 : True := trivial
    go_wp2_with (first
      | (go_at_call 20; have _t := tok2; refine (S2.out _).mono ?_; rintro e w4 ⟨rfl, hw4⟩; clear tok2 S2; have tok3 : True := trivial)
      | (go_at_call 20; have _t := tok3; refine (S8.out _).mono ?_; rintro e w5 ⟨rfl, hw5⟩; clear tok3 S8; have tok4 : True := trivial)
      | (go_at_call 20; have _t := tok4; refine (S16.out _).mono ?_; rintro e w6 ⟨rfl, hw6⟩; clear tok4 S16; have tok5 : True := trivial)
      | (go_at_call 19; have _t := tok5; refine (C16.out _).mono ?_; rintro e w7 ⟨rfl, hw7⟩; clear tok5 C16))
    have hb7 : Below w.heap.size w w7 := by
      have h3 : w.heap.size ≤ w3.heap.size := hb3.size
      have h4 : Below (w3.alloc (.cells #[.int .i64 0, .string (str []), .string (str [])] 25)).heap.size (w3.alloc (.cells #[.int .i64 0, .string (str []), .string (str [])] 25)) w4 := hw4
      have hA := hb3.trans ((Below.refl _ w3).alloc hb3.size (.cells #[.int .i64 0, .string (str []), .string (str [])] 25))
      have k4 := hA.trans (h4.mono hA.size)
      have k5 := k4.trans (hw5.mono k4.size)
      have k6 := k5.trans (hw6.mono k5.size)
      exact k6.trans (hw7.mono k6.size)
    go_loopw [48] (fun vk wr => ∃ k : Nat, vk = .int .i64 k ∧ k ≤ 3 ∧ Hid (Below (w7.heap.size + 1) (w7.alloc (.cells #[.string (str T1), .string (str T2), .string (str T3)] 9)) wr)) (fun vk _ => 3 - (intOf vk).toNat)
    case atStart => exact ⟨0, rfl, by omega, Below.refl _ _⟩
    case round =>
      obtain ⟨k, rfl, hk, hB⟩ := hrel
      have hbr : Below w.heap.size w wr := (hb7.trans ((Below.refl _ _).alloc hb7.size _)).trans (hB.out.mono (Nat.le_trans hb7.size (Nat.le_succ _)))
      by_cases hlt : k < 3
      · obtain ⟨t, ht, hcell0⟩ := cells3 w7 9 (str T1) (str T2) (str T3) k hlt
        have hcell : wr.cell? ⟨w7.heap.size, k, none⟩ = some (.string t) := by rw [hB.out.cell (p := ⟨w7.heap.size, k, none⟩) (by simp)]; exact hcell0
        have hmem := List.mem_of_getElem? ht
        obtain ⟨l, rfl, hl⟩ : ∃ l, t = str l ∧ l ∈ [T1, T2, T3] := by
          simp only [List.mem_cons, List.not_mem_nil, or_false] at hmem
          rcases hmem with rfl | rfl | rfl
          · exact ⟨T1, rfl, by simp⟩
          · exact ⟨T2, rfl, by simp⟩
          · exact ⟨T3, rfl, by simp⟩
        have PL := Lib.hid (PT.out l hl wr hbr)
        clear ht hcell0 hmem hl
        go_wp2_with (go_at_call 21; refine PL.out.mono ?_; rintro e w8 ⟨rfl, hw8⟩)
        go_roundw
        case rel => exact ⟨k + 1, by go_num, by omega, hB.out.trans ((hw8.mono (by have := hB.out.size; simpa using this)).trans ((Below.refl _ _).alloc (Nat.le_trans (by have := hB.out.size; simpa using this) hw8.size) _))⟩
        case measure => simp [intOf]; omega
      · go_wp2_with fail
        go_ret
        exact ⟨rfl, hbr⟩
end Go.Proofs.YtjjocdhgjbhnhaaDoor.fnCapitals
