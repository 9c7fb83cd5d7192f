/-
  The walk of laws.FnUnderscores: it returns true.
-/
import Derived.Test.YtjjocdhgjbhnhaaDoorParse
import Derived.Test.YtjjocdhgjbhnhaaDoorMarks
import Derived.Test.YtjjocdhgjbhnhaaDoorSpecFormat
import Derived.Outline
namespace Go.Proofs.YtjjocdhgjbhnhaaDoor.fnUnderscores
open Go.RowKit
set_option maxRecDepth 100000
set_option linter.unusedVariables false
set_option linter.unusedSimpArgs false
theorem wf_u64' {x : Int} (h : (Lit.int .u64 x).wf = true) : 0 ≤ x ∧ x ≤ 18446744073709551615 := by simpa [Lit.wf, IntKind.min, IntKind.max, IntKind.signed, IntKind.bits] using h
theorem cells4 (w : World) (T : TypeId) (a b c d : List UInt8) (k : Nat) (hk : k < 4) : ∃ x, x ∈ [a, b, c, d] ∧ (w.alloc (.cells #[.string (str a), .string (str b), .string (str c), .string (str d)] T)).cell? ⟨w.heap.size, k, none⟩ = some (.string (str x)) := by
  refine ⟨[a, b, c, d][k]'hk, List.getElem_mem _, ?_⟩
  rw [World.cell?_alloc_new]
  have : k = 0 ∨ k = 1 ∨ k = 2 ∨ k = 3 := by omega
  rcases this with rfl | rfl | rfl | rfl <;> rfl
theorem cells6 (w : World) (T : TypeId) (a b c d e f : List UInt8) (k : Nat) (hk : k < 6) : ∃ x, x ∈ [a, b, c, d, e, f] ∧ (w.alloc (.cells #[.string (str a), .string (str b), .string (str c), .string (str d), .string (str e), .string (str f)] T)).cell? ⟨w.heap.size, k, none⟩ = some (.string (str x)) := by
  refine ⟨[a, b, c, d, e, f][k]'hk, List.getElem_mem _, ?_⟩
  rw [World.cell?_alloc_new]
  have : k = 0 ∨ k = 1 ∨ k = 2 ∨ k = 3 ∨ k = 4 ∨ k = 5 := by omega
  rcases this with rfl | rfl | rfl | rfl | rfl | rfl <;> rfl
set_option maxHeartbeats 8000000 in
theorem walk (w : World) (u : Int) (hu : (Lit.int .u64 u).wf = true) (A : Option Addr) (cp : Nat) (marks : List UInt8) (hr : Reads w w.heap.size 1 A marks.length (bcells marks)) (hm : marks.length ≤ 140737488351232) (hL : laidMetH Tryd.prog Rows.fnUnderscoresRow.laid w) :
    Calls Tryd.prog 8 #[.int .u64 u, .slice A marks.length cp] w fun e w' => e = .returned (.bool true) ∧ Below w.heap.size w w' := by
  obtain ⟨aS, aR, hE⟩ := errT_of hL (by kernel_rfl) (by simp [Rows.fnUnderscoresRow, Rows.laid_strconv_ErrSyntax, synText]) (by simp [Rows.fnUnderscoresRow, Rows.laid_strconv_ErrRange, rngText])
  have hu := wf_u64' hu
  clear hL
  obtain ⟨n, rfl⟩ : ∃ n : Nat, u = n := ⟨u.toNat, by omega⟩
  have S10 := Lib.hid (fun wx => specFormatUint_any n 10 wx (by omega) (by omega) (by omega))
  have S16 := Lib.hid (fun wx => specFormatUint_any n 16 wx (by omega) (by omega) (by omega))
  have S8 := Lib.hid (fun wx => specFormatUint_any n 8 wx (by omega) (by omega) (by omega))
  have l10 := digB_length_64 (b := 10) (u := n) (by omega) (by omega)
  have l16 := digB_length_64 (b := 16) (u := n) (by omega) (by omega)
  have l8 := digB_length_64 (b := 8) (u := n) (by omega) (by omega)
  have U10 := Lib.hid (fun wx (hbx : Below w.heap.size w wx) => under_any (digB 10 n) marks A cp wx ((hr.below hbx).more hbx.size) hm (by omega))
  have U16 := Lib.hid (fun wx (hbx : Below w.heap.size w wx) => under_any (digB 16 n) marks A cp wx ((hr.below hbx).more hbx.size) hm (by omega))
  have U8 := Lib.hid (fun wx (hbx : Below w.heap.size w wx) => under_any (digB 8 n) marks A cp wx ((hr.below hbx).more hbx.size) hm (by omega))
  have m10 := underL_length marks (digB 10 n) 0
  have m16 := underL_length marks (digB 16 n) 0
  have m8 := underL_length marks (digB 8 n) 0
  have hgood := marks_good marks n (by omega)
  have hbad := marks_refused marks n
  have hten := marks_ten (u := n) (underL_noU marks (digB 10 n) 0 fun c hc => (digB_plain (b := 10) (by omega) (by omega) n c hc).1)
  obtain ⟨D, hD⟩ : ∃ D, D = digB 10 n := ⟨_, rfl⟩
  obtain ⟨D16, hD16⟩ : ∃ D, D = digB 16 n := ⟨_, rfl⟩
  obtain ⟨D8, hD8⟩ : ∃ D, D = digB 8 n := ⟨_, rfl⟩
  rw [← hD] at S10 U10 hgood hbad hten m10 l10
  rw [← hD16] at S16 U16 hgood hbad m16 l16
  rw [← hD8] at S8 U8 hgood m8 l8
  obtain ⟨T, hT⟩ : ∃ T, T = underL marks D 0 := ⟨_, rfl⟩
  obtain ⟨H, hH⟩ : ∃ T, T = underL marks D16 0 := ⟨_, rfl⟩
  obtain ⟨O, hO⟩ : ∃ T, T = underL marks D8 0 := ⟨_, rfl⟩
  rw [← hT] at U10 hgood hbad hten m10
  rw [← hH] at U16 hgood hbad m16
  rw [← hO] at U8 hgood m8
  have tl : T.length ≤ 200 := by omega
  have hl : H.length ≤ 200 := by omega
  have ol : O.length ≤ 200 := by omega
  have c2 : (ByteArray.mk #[48, 120]) ++ str H = str (48 :: 120 :: H) := str_append [48, 120] H
  have c3 : (ByteArray.mk #[48, 120, 95]) ++ str H = str (48 :: 120 :: 95 :: H) := str_append [48, 120, 95] H
  have c4 : (ByteArray.mk #[48, 95]) ++ str O = str (48 :: 95 :: O) := str_append [48, 95] O
  have s2 : ¬ 9223372036854775807 < (str [48, 120]).size + (str H).size := by rw [size_str, size_str]; simp; omega
  have s3 : ¬ 9223372036854775807 < (str [48, 120, 95]).size + (str H).size := by rw [size_str, size_str]; simp; omega
  have s4 : ¬ 9223372036854775807 < (str [48, 95]).size + (str O).size := by rw [size_str, size_str]; simp; omega
  have d1 : (ByteArray.mk #[95]) ++ str T = str (95 :: T) := str_append [95] T
  have d2 : str T ++ (ByteArray.mk #[95]) = str (T ++ [95]) := str_append T [95]
  have d3 : (ByteArray.mk #[48, 120, 95, 95]) ++ str H = str (48 :: 120 :: 95 :: 95 :: H) := str_append [48, 120, 95, 95] H
  have d4 : str (48 :: 120 :: H) ++ (ByteArray.mk #[95]) = str (48 :: 120 :: (H ++ [95])) := str_append (48 :: 120 :: H) [95]
  have d5 : (ByteArray.mk #[49, 95, 95]) ++ str T = str (49 :: 95 :: 95 :: T) := str_append [49, 95, 95] T
  have d6 : (ByteArray.mk #[95, 48, 120]) ++ str H = str (95 :: 48 :: 120 :: H) := str_append [95, 48, 120] H
  have r1 : ¬ 9223372036854775807 < (str [95]).size + (str T).size := by rw [size_str, size_str]; simp; omega
  have r2 : ¬ 9223372036854775807 < (str T).size + (str [95]).size := by rw [size_str, size_str]; simp; omega
  have r3 : ¬ 9223372036854775807 < (str [48, 120, 95, 95]).size + (str H).size := by rw [size_str, size_str]; simp; omega
  have r4 : ¬ 9223372036854775807 < (str (48 :: 120 :: H)).size + (str [95]).size := by rw [size_str, size_str]; simp; omega
  have r5 : ¬ 9223372036854775807 < (str [49, 95, 95]).size + (str T).size := by rw [size_str, size_str]; simp; omega
  have r6 : ¬ 9223372036854775807 < (str [95, 48, 120]).size + (str H).size := by rw [size_str, size_str]; simp; omega
  obtain ⟨x, hx⟩ : ∃ x : Int, x = (n : Int) := ⟨_, rfl⟩
  have hgl : ∀ t ∈ [T, 48 :: 120 :: H, 48 :: 120 :: 95 :: H, 48 :: 95 :: O], t.length ≤ 300 := by simp; omega
  have hbl : ∀ t ∈ [95 :: T, T ++ [95], 48 :: 120 :: 95 :: 95 :: H, 48 :: 120 :: (H ++ [95]), 49 :: 95 :: 95 :: T, 95 :: 48 :: 120 :: H], t.length ≤ 300 := by simp; omega
  have PG := Lib.hid (show ∀ t, t ∈ [T, 48 :: 120 :: H, 48 :: 120 :: 95 :: H, 48 :: 95 :: O] → ∀ wx, Below w.heap.size w wx → Calls Tryd.prog 21 #[.string (str t), .int .i64 0, .int .i64 64] wx fun e w' => e = .returned (.tuple #[.int .u64 x, .agg #[.int .i64 0, .string (str []), .string (str [])]]) ∧ Below wx.heap.size wx w' from fun t ht wx hb => by
    have h := ParseUint_any t 0 64 wx (.inl rfl) (by omega) (by omega) (by have := hgl t ht; omega) aS aR (hE.below hb)
    rw [show (0 : Int).toNat = 0 by rfl, show (64 : Int).toNat = 64 by rfl, hgood t ht] at h
    rw [hx]; exact h)
  have PR := Lib.hid (show n ≤ 4294967296 → ∀ t, t ∈ [95 :: T, T ++ [95], 48 :: 120 :: 95 :: 95 :: H, 48 :: 120 :: (H ++ [95]), 49 :: 95 :: 95 :: T, 95 :: 48 :: 120 :: H] → ∀ wx, Below w.heap.size w wx → Calls Tryd.prog 21 #[.string (str t), .int .i64 0, .int .i64 64] wx fun e w' => e = .returned (.tuple #[.int .u64 0, .agg #[.int .i64 1, .string (str puText), .string (str t)]]) ∧ Below wx.heap.size wx w' from fun h32 t ht wx hb => by
    have h := ParseUint_any t 0 64 wx (.inl rfl) (by omega) (by omega) (by have := hbl t ht; omega) aS aR (hE.below hb)
    rw [show (0 : Int).toNat = 0 by rfl, show (64 : Int).toNat = 64 by rfl, hbad h32 t ht] at h
    exact h)
  have PT := Lib.hid (show T ≠ D → ∀ wx, Below w.heap.size w wx → Calls Tryd.prog 21 #[.string (str T), .int .i64 10, .int .i64 64] wx fun e w' => e = .returned (.tuple #[.int .u64 0, .agg #[.int .i64 1, .string (str puText), .string (str T)]]) ∧ Below wx.heap.size wx w' from fun hne wx hb => by
    have h := ParseUint_any T 10 64 wx (.inr (by omega)) (by omega) (by omega) (by omega) aS aR (hE.below hb)
    rw [show (10 : Int).toNat = 10 by rfl, show (64 : Int).toNat = 64 by rfl, hten hne (by omega)] at h
    exact h)
  obtain ⟨G2, hG2⟩ : ∃ T, T = 48 :: 120 :: H := ⟨_, rfl⟩
  obtain ⟨G3, hG3⟩ : ∃ T, T = 48 :: 120 :: 95 :: H := ⟨_, rfl⟩
  obtain ⟨G4, hG4⟩ : ∃ T, T = 48 :: 95 :: O := ⟨_, rfl⟩
  obtain ⟨R1, hR1⟩ : ∃ X, X = 95 :: T := ⟨_, rfl⟩
  obtain ⟨R2, hR2⟩ : ∃ X, X = T ++ [95] := ⟨_, rfl⟩
  obtain ⟨R3, hR3⟩ : ∃ X, X = 48 :: 120 :: 95 :: 95 :: H := ⟨_, rfl⟩
  obtain ⟨R4, hR4⟩ : ∃ X, X = 48 :: 120 :: (H ++ [95]) := ⟨_, rfl⟩
  obtain ⟨R5, hR5⟩ : ∃ X, X = 49 :: 95 :: 95 :: T := ⟨_, rfl⟩
  obtain ⟨R6, hR6⟩ : ∃ X, X = 95 :: 48 :: 120 :: H := ⟨_, rfl⟩
  rw [← hG2] at c2 d4 r4
  rw [← hG3] at c3
  rw [← hG4] at c4
  rw [← hG2, ← hG3, ← hG4] at PG
  rw [← hR5, ← hR6, ← hR4, ← hR3, ← hR2, ← hR1] at PR
  rw [← hR1] at d1
  rw [← hR2] at d2
  rw [← hR3] at d3
  rw [← hR4] at d4
  rw [← hR5] at d5
  rw [← hR6] at d6
  rw [← hx] at S10 S16 S8 ⊢
  have x0 : 0 ≤ x := by omega
  have x1 : x ≤ 18446744073709551615 := by omega
  have HX := Lib.hid hx
  have e1 : (str T).toList = T := by rw [Lib.toList_data]; rfl
  have e2 : (str D).toList = D := by rw [Lib.toList_data]; rfl
  obtain ⟨q, hq⟩ : ∃ q, q = marks.length := ⟨_, rfl⟩
  rw [← hq] at U10 U16 U8 ⊢
  clear hx hE hu hgood hbad hten hgl hbl hG2 hG3 hG4 hR1 hR2 hR3 hR4 hR5 hR6 hD hD16 hD8 hT hH hO hr hm hq m10 m16 m8 l10 l16 l8
  go_enter Tryd.func8, Tryd.ntmps8
  have tok1 : True := trivial
  go_wp2_with (first
    | (go_at_call 20; have _t := tok1; clear tok1; refine (S10.out w).mono ?_; rintro e w1 ⟨rfl, hw1⟩; have tok2 : True := trivial)
    | (go_at_call 24; have _t := tok2; clear tok2; refine (U10.out w1 hw1).mono ?_; rintro e w2 ⟨rfl, hw2⟩; have hb2 := hw1.trans (hw2.mono hw1.size); have tok3 : True := trivial)
    | (go_at_call 20; have _t := tok3; clear tok3; refine (S16.out w2).mono ?_; rintro e w3 ⟨rfl, hw3⟩; have hb3 := hb2.trans (hw3.mono hb2.size); have tok4 : True := trivial)
    | (go_at_call 24; have _t := tok4; clear tok4; refine (U16.out w3 hb3).mono ?_; rintro e w4 ⟨rfl, hw4⟩; have hb4 := hb3.trans (hw4.mono hb3.size); have tok5 : True := trivial)
    | (go_at_call 20; have _t := tok5; clear tok5; refine (S8.out w4).mono ?_; rintro e w5 ⟨rfl, hw5⟩; have hb5 := hb4.trans (hw5.mono hb4.size); have tok6 : True := trivial)
    | (go_at_call 24; have _t := tok6; clear tok6; refine (U8.out w5 hb5).mono ?_; rintro e w7 ⟨rfl, hw7⟩; have hb7 := hb5.trans (hw7.mono hb5.size)))
  clear S16 S8 U10 U16 U8
  go_loopw [37] (fun vk wr => ∃ k : Nat, vk = .int .i64 k ∧ k ≤ 4 ∧ Hid (Below (w7.heap.size + 1) (w7.alloc (.cells #[.string (str T), .string (str G2), .string (str G3), .string (str G4)] 9)) wr)) (fun vk _ => 4 - (intOf vk).toNat)
  case atStart => exact ⟨0, rfl, by omega, Below.refl _ _⟩
  case round =>
    obtain ⟨k, rfl, hk, hB⟩ := hrel
    have hbr : Below w.heap.size w wr := (hb7.trans ((Below.refl _ _).alloc hb7.size _)).trans (hB.out.mono (Nat.le_trans hb7.size (Nat.le_succ _)))
    by_cases hlt : k < 4
    · obtain ⟨t, ht, hcell0⟩ := cells4 w7 9 T G2 G3 G4 k hlt
      have hcell : wr.cell? ⟨w7.heap.size, k, none⟩ = some (.string (str t)) := by rw [hB.out.cell (p := ⟨w7.heap.size, k, none⟩) (by simp)]; exact hcell0
      have PL := Lib.hid (PG.out t ht wr hbr)
      clear ht hcell0
      go_wp2_with (go_at_call 21; refine PL.out.mono ?_; rintro e w8 ⟨rfl, hw8⟩)
      go_roundw
      case rel => exact ⟨k + 1, by go_num, by omega, hB.out.trans ((hw8.mono (by have := hB.out.size; simpa using this)).trans ((Below.refl _ _).alloc (Nat.le_trans (by have := hB.out.size; simpa using this) hw8.size) _))⟩
      case measure => simp [intOf]; omega
    · by_cases h32 : 4294967296 < x
      · go_wp2_with fail
        all_goals first | (exfalso; omega) | skip
        go_ret
        exact ⟨rfl, hbr⟩
      · have PR2 := Lib.hid (PR.out (by have := HX.out; omega))
        have h32' : x ≤ 4294967296 := by omega
        clear h32
        obtain ⟨wo, rfl⟩ : ∃ wo : World, wo = wr := ⟨_, rfl⟩
        go_wp2_with fail
        go_loopw [72] (fun vk wr => ∃ k : Nat, vk = .int .i64 k ∧ k ≤ 6 ∧ Hid (Below (wo.heap.size + 1) (wo.alloc (.cells #[.string (str R1), .string (str R2), .string (str R3), .string (str R4), .string (str R5), .string (str R6)] 9)) wr)) (fun vk _ => 6 - (intOf vk).toNat)
        case atStart => exact ⟨0, rfl, by omega, Below.refl _ _⟩
        case round =>
          obtain ⟨k2, rfl, hk2, hB2⟩ := hrel
          have hbr2 : Below w.heap.size w wr := (hbr.trans ((Below.refl _ _).alloc hbr.size _)).trans (hB2.out.mono (Nat.le_trans hbr.size (Nat.le_succ _)))
          by_cases hlt2 : k2 < 6
          · obtain ⟨t, ht, hcell0⟩ := cells6 wo 9 R1 R2 R3 R4 R5 R6 k2 hlt2
            have hcell : wr.cell? ⟨wo.heap.size, k2, none⟩ = some (.string (str t)) := by rw [hB2.out.cell (p := ⟨wo.heap.size, k2, none⟩) (by simp)]; exact hcell0
            have PL := Lib.hid (PR2.out t ht wr hbr2)
            clear ht hcell0
            go_wp2_with (go_at_call 21; refine PL.out.mono ?_; rintro e w8 ⟨rfl, hw8⟩)
            go_roundw
            case rel => exact ⟨k2 + 1, by go_num, by omega, hB2.out.trans ((hw8.mono (by have := hB2.out.size; simpa using this)).trans ((Below.refl _ _).alloc (Nat.le_trans (by have := hB2.out.size; simpa using this) hw8.size) _))⟩
            case measure => simp [intOf]; omega
          · by_cases hTD : T = D
            · have q1 : (T == D) = true := by simpa using hTD
              clear hTD
              go_wp2_with (go_at_call 20; refine (S10.out _).mono ?_; rintro e w9 ⟨rfl, hw9⟩)
              go_ret
              exact ⟨rfl, hbr2.trans (hw9.mono hbr2.size)⟩
            · have q1 : (T == D) = false := by simpa using hTD
              have PQ := Lib.hid (PT.out hTD)
              clear hTD
              go_wp2_with (first
                | (go_at_call 20; refine (S10.out _).mono ?_; rintro e w9 ⟨rfl, hw9⟩; have hb9 := hbr2.trans (hw9.mono hbr2.size))
                | (go_at_call 21; refine (PQ.out w9 hb9).mono ?_; rintro e w10 ⟨rfl, hw10⟩; have hb10 := hb9.trans (hw10.mono hb9.size)))
              go_ret
              exact ⟨rfl, hb10.trans ((Below.refl _ _).alloc hb10.size _)⟩
end Go.Proofs.YtjjocdhgjbhnhaaDoor.fnUnderscores
