/-
  The walk of laws.FnBools: it returns true.
-/
import Derived.Test.YtjjocdhgjbhnhaaDoorParseBool
import Derived.Test.YtjjocdhgjbhnhaaDoorCapitals
import Derived.Deep.RegionHeld3
import Derived.Outline
namespace Go.Proofs.YtjjocdhgjbhnhaaDoor.fnBools
open Go.RowKit
set_option maxRecDepth 100000
set_option linter.unusedVariables false
set_option linter.unusedSimpArgs false
theorem pb_bad {l : List UInt8} (h : ∀ x ∈ trueL ++ falseL, l ≠ x) : pbOk l = false :=
  (pb_none (fun h1 => h l (List.mem_append_left _ h1) rfl) (fun h1 => h l (List.mem_append_right _ h1) rfl)).2
theorem behind {s more : List UInt8} (hne : more ≠ []) (hd : ∀ x ∈ trueL ++ falseL, ¬ (s.length < x.length ∧ x.take s.length = s)) : pbOk (s ++ more) = false := by
  refine pb_bad fun x hx e => hd x hx ?_
  subst e
  have := List.length_pos_iff.2 hne
  exact ⟨by simp; omega, by simp⟩
theorem before {s more : List UInt8} (hne : more ≠ []) (hd : ∀ x ∈ trueL ++ falseL, ¬ (s.length < x.length ∧ x.drop (x.length - s.length) = s)) : pbOk (more ++ s) = false := by
  refine pb_bad fun x hx e => hd x hx ?_
  subst e
  have := List.length_pos_iff.2 hne
  exact ⟨by simp; omega, by simp⟩
theorem cells5 (w : World) (T : TypeId) (a b c d e : List UInt8) (k : Nat) (hk : k < 5) : ∃ x, x ∈ [a, b, c, d, e] ∧ (w.alloc (.cells #[.string (str a), .string (str b), .string (str c), .string (str d), .string (str e)] T)).cell? ⟨w.heap.size, k, none⟩ = some (.string (str x)) := by
  refine ⟨[a, b, c, d, e][k]'hk, List.getElem_mem _, ?_⟩
  rw [World.cell?_alloc_new]
  have : k = 0 ∨ k = 1 ∨ k = 2 ∨ k = 3 ∨ k = 4 := by omega
  rcases this with rfl | rfl | rfl | rfl | rfl <;> rfl
set_option maxHeartbeats 8000000 in
theorem walk (w : World) (b : Bool) (s : ByteArray) (hs : s.size ≤ 140737488351232) (hL : laidMetH Tryd.prog Rows.fnBoolsRow.laid w) :
    Calls Tryd.prog 5 #[.bool b, .string s] w fun e w' => e = .returned (.bool true) ∧ Below w.heap.size w w' := by
  obtain ⟨aS, aR, hE⟩ := errT_of hL (by kernel_rfl) (by simp [Rows.fnBoolsRow, Rows.laid_strconv_ErrSyntax, synText]) (by simp [Rows.fnBoolsRow, Rows.laid_strconv_ErrRange, rngText])
  obtain ⟨M, rfl⟩ : ∃ l, s = str l := ⟨s.data.toList, (str_toList s).symm⟩
  rw [size_str] at hs
  clear hL
  cases b
  · have V := Lib.hid (show ∀ t, t ∈ [[102, 97, 108, 115, 101], [102], [70], [70, 65, 76, 83, 69], [70, 97, 108, 115, 101], [48]] → ∀ wx, Calls Tryd.prog 16 #[.string (str t)] wx fun e w' => e = .returned (.tuple #[.bool false, .agg #[.int .i64 0, .string (str []), .string (str [])]]) ∧ Below wx.heap.size wx w' from fun t ht wx => by
      have h1 : ∀ t ∈ [[102, 97, 108, 115, 101], [102], [70], [70, 65, 76, 83, 69], [70, 97, 108, 115, 101], [48]], pbOk t = true ∧ pbVal t = false := by decide +kernel
      have h := ParseBool_ok t wx (h1 t ht).1
      rw [(h1 t ht).2] at h; exact h)
    have V0 := Lib.hid (V.out [102, 97, 108, 115, 101] (by simp))
    have CA1 := Lib.hid (show ∀ wx, Calls Tryd.prog 19 #[.string (str [102])] wx fun e w' => e = .returned (.string (str [70])) ∧ Below wx.heap.size wx w' from fun wx => capitals_any [102] wx (by decide))
    have CA2 := Lib.hid (show ∀ wx, Calls Tryd.prog 19 #[.string (str [102, 97, 108, 115, 101])] wx fun e w' => e = .returned (.string (str [70, 65, 76, 83, 69])) ∧ Below wx.heap.size wx w' from fun wx => capitals_any [102, 97, 108, 115, 101] wx (by decide))
    have hsl1 : ∀ wx, (Instr.slice 9 (.string (str [102, 97, 108, 115, 101])) none (some (.int .i64 1)) none).run Tryd.prog wx = .ok (.string (str [102])) wx := fun wx => by kernel_rfl
    have hsl2 : ∀ wx, (Instr.slice 9 (.string (str [102, 97, 108, 115, 101])) (some (.int .i64 1)) none none).run Tryd.prog wx = .ok (.string (str [97, 108, 115, 101])) wx := fun wx => by kernel_rfl
    have hcat : str [70] ++ str [97, 108, 115, 101] = str [70, 97, 108, 115, 101] := str_append _ _
    obtain ⟨SS, hSS⟩ : ∃ X : List UInt8, X = [102, 97, 108, 115, 101] := ⟨_, rfl⟩
    obtain ⟨T0, hT0⟩ : ∃ X : List UInt8, X = [102] := ⟨_, rfl⟩
    obtain ⟨T1, hT1⟩ : ∃ X : List UInt8, X = [70] := ⟨_, rfl⟩
    obtain ⟨T2, hT2⟩ : ∃ X : List UInt8, X = [70, 65, 76, 83, 69] := ⟨_, rfl⟩
    obtain ⟨T3, hT3⟩ : ∃ X : List UInt8, X = [70, 97, 108, 115, 101] := ⟨_, rfl⟩
    obtain ⟨ST, hST⟩ : ∃ X : List UInt8, X = [97, 108, 115, 101] := ⟨_, rfl⟩
    have HP := Lib.hid (fun wx (hbx : Below w.heap.size w wx) (hne : M ≠ []) => ParseBool_err ([102, 97, 108, 115, 101] ++ M) wx (behind hne (by decide)) aS aR (hE.below hbx) (by simp; omega))
    have HQ := Lib.hid (fun wx (hbx : Below w.heap.size w wx) (hne : M ≠ []) => ParseBool_err (M ++ [102, 97, 108, 115, 101]) wx (before hne (by decide)) aS aR (hE.below hbx) (by simp; omega))
    rw [← hSS] at V V0 CA2 hsl1 hsl2 HP HQ
    rw [← hT0, ← hT1, ← hT2, ← hT3] at V
    rw [← hT0] at hsl1
    rw [← hT0, ← hT1] at CA1
    rw [← hT2] at CA2
    rw [← hST] at hsl2
    rw [← hT3, ← hST, ← hT1] at hcat
    have zS : (str SS).size ≤ 5 := by rw [size_str, hSS]; decide
    have zA : ¬ 9223372036854775807 < (str T1).size + (str ST).size := by rw [size_str, size_str, hT1, hST]; decide
    have HSS := Lib.hid hSS
    have eS : (str SS).toList.isEmpty = false := by rw [Lib.toList_data, hSS]; rfl
    have c1 : str SS ++ str M = str (SS ++ M) := str_append _ _
    have c2 : str M ++ str SS = str (M ++ SS) := str_append _ _
    have z1 : ¬ 9223372036854775807 < (str SS).size + (str M).size := by rw [size_str M]; omega
    have z2 : ¬ 9223372036854775807 < (str M).size + (str SS).size := by rw [size_str M]; omega
    obtain ⟨E1, hE1⟩ : ∃ X, X = SS ++ M := ⟨_, rfl⟩
    obtain ⟨E2, hE2⟩ : ∃ X, X = M ++ SS := ⟨_, rfl⟩
    rw [← hE1] at HP c1
    rw [← hE2] at HQ c2
    have FB := Lib.hid (show ∀ wx, Calls Tryd.prog 18 #[.bool false] wx fun e w' => e = .returned (.string (str SS)) ∧ wx = w' from fun wx => by
      rw [HSS.out]
      go_enter Tryd.func18, Tryd.ntmps18
      go_wp2
      go_ret
      exact ⟨rfl, rfl⟩)
    clear hE hs hT0 hT1 hT2 hT3 hST hSS hE1 hE2
    go_enter Tryd.func5, Tryd.ntmps5
    go_wp2_with (first
      | (go_at_call 18; refine (FB.out w).mono ?_; rintro e w1 ⟨rfl, rfl⟩; clear FB)
      | (go_at_call 16; refine (V0.out _).mono ?_; rintro e w2 ⟨rfl, hw2⟩; clear V0))
    have hb2 := hw2.trans ((Below.refl _ _).alloc hw2.size (.cells #[.int .i64 0, .string (str []), .string (str [])] 25))
    refine wp_region_held_drew (S := fun _ => True) (by kernel_rfl) trivial (fun hHeld => ?_)
    refine wpAnyH_take (i := 0) (oi := ⟨some 37, _, _, _, _, _⟩) (v := ?_) rfl (by kernel_rfl) (by kernel_rfl) (by kernel_rfl) (fun _ _ _ h => h) (Or.inl ⟨by kernel_rfl, ?_⟩) (by assumption) ?_
    case refine_2 => (intro w hSw; (try dsimp only at hSw); go_simp; (try with_reducible rfl))
    try simp only [Act.put, List.setIfInBounds_toArray, List.set_cons_zero, List.set_cons_succ]
    refine wpAnyH_take (i := 1) (oi := ⟨some 38, _, _, _, _, _⟩) (v := ?_) rfl (by kernel_rfl) (by kernel_rfl) (by kernel_rfl) (fun _ _ _ h => h) (Or.inl ⟨by kernel_rfl, ?_⟩) (by assumption) ?_
    case refine_2 => (intro w hSw; (try dsimp only at hSw); go_simp; (try with_reducible rfl))
    try simp only [Act.put, List.setIfInBounds_toArray, List.set_cons_zero, List.set_cons_succ]
    refine wpAnyH_take (i := 2) (oi := ⟨some 39, _, _, _, _, _⟩) (v := ?_) rfl (by kernel_rfl) (by kernel_rfl) (by kernel_rfl) (fun _ _ _ h => h) (Or.inl ⟨by kernel_rfl, ?_⟩) (by assumption) ?_
    case refine_2 => (intro w hSw; (try dsimp only at hSw); go_simp; (try with_reducible rfl))
    try simp only [Act.put, List.setIfInBounds_toArray, List.set_cons_zero, List.set_cons_succ]
    refine wpAnyH_take (i := 3) (oi := ⟨some 40, _, _, _, _, _⟩) (v := ?_) rfl (by kernel_rfl) (by kernel_rfl) (by kernel_rfl) (fun _ _ _ h => h) (Or.inl ⟨by kernel_rfl, ?_⟩) (by assumption) ?_
    case refine_2 => (intro w hSw; (try dsimp only at hSw); go_simp; (try with_reducible rfl))
    try simp only [Act.put, List.setIfInBounds_toArray, List.set_cons_zero, List.set_cons_succ]
    refine wpAnyH_take (i := 5) (oi := ⟨some 42, _, _, _, _, _⟩) (v := ?_) rfl (by kernel_rfl) (by kernel_rfl) (by kernel_rfl) (fun _ _ _ h => h) (Or.inl ⟨by kernel_rfl, ?_⟩) (by assumption) ?_
    case refine_2 => (intro w hSw; (try dsimp only at hSw); go_simp; (try with_reducible rfl))
    try simp only [Act.put, List.setIfInBounds_toArray, List.set_cons_zero, List.set_cons_succ]
    refine wpAnyH_take (i := 7) (oi := ⟨some 44, _, _, _, _, _⟩) (v := ?_) rfl (by kernel_rfl) (by kernel_rfl) (by kernel_rfl) (fun _ _ _ h => h) (Or.inl ⟨by kernel_rfl, ?_⟩) (by assumption) ?_
    case refine_2 => (intro w hSw; (try dsimp only at hSw); go_simp; (try with_reducible rfl))
    try simp only [Act.put, List.setIfInBounds_toArray, List.set_cons_zero, List.set_cons_succ]
    refine wpAnyH_take (i := 8) (oi := ⟨some 45, _, _, _, _, _⟩) (v := ?_) rfl (by kernel_rfl) (by kernel_rfl) (by kernel_rfl) (fun _ _ _ h => h) (Or.inl ⟨by kernel_rfl, ?_⟩) (by assumption) ?_
    case refine_2 => (intro w hSw; (try dsimp only at hSw); go_simp; (try with_reducible rfl))
    try simp only [Act.put, List.setIfInBounds_toArray, List.set_cons_zero, List.set_cons_succ]
    refine wpAnyH_take (i := 10) (oi := ⟨some 47, _, _, _, _, _⟩) (v := ?_) rfl (by kernel_rfl) (by kernel_rfl) (by kernel_rfl) (fun _ _ _ h => h) (Or.inl ⟨by kernel_rfl, ?_⟩) (by assumption) ?_
    case refine_2 => (intro w hSw; (try dsimp only at hSw); go_simp; (try with_reducible rfl))
    try simp only [Act.put, List.setIfInBounds_toArray, List.set_cons_zero, List.set_cons_succ]
    refine wpAnyH_take (i := 11) (oi := ⟨some 48, _, _, _, _, _⟩) (v := ?_) rfl (by kernel_rfl) (by kernel_rfl) (by kernel_rfl) (fun _ _ _ h => h) (Or.inl ⟨by kernel_rfl, ?_⟩) (by assumption) ?_
    case refine_2 => (intro w hSw; (try dsimp only at hSw); go_simp; (try with_reducible rfl))
    try simp only [Act.put, List.setIfInBounds_toArray, List.set_cons_zero, List.set_cons_succ]
    refine wpAnyH_take (i := 13) (oi := ⟨some 50, _, _, _, _, _⟩) (v := ?_) rfl (by kernel_rfl) (by kernel_rfl) (by kernel_rfl) (fun _ _ _ h => h) (Or.inl ⟨by kernel_rfl, ?_⟩) (by assumption) ?_
    case refine_2 => (intro w hSw; (try dsimp only at hSw); go_simp; (try with_reducible rfl))
    try simp only [Act.put, List.setIfInBounds_toArray, List.set_cons_zero, List.set_cons_succ]
    refine wpAnyH_take (i := 16) (oi := ⟨some 53, _, _, _, _, _⟩) (v := ?_) rfl (by kernel_rfl) (by kernel_rfl) (by kernel_rfl) (fun _ _ _ h => h) (Or.inl ⟨by kernel_rfl, ?_⟩) (by assumption) ?_
    case refine_2 => (intro w hSw; (try dsimp only at hSw); go_simp; (try with_reducible rfl))
    try simp only [Act.put, List.setIfInBounds_toArray, List.set_cons_zero, List.set_cons_succ]
    refine wpAnyH_ready (rs := [4]) (by kernel_rfl) (by simp) ?_
    refine AllReadyH.cons rfl (fun K hK => ?_) AllReadyH.nil
    go_simp
    (go_at_call 19; refine (CA1.out _).mono ?_; rintro e w4 ⟨rfl, hw4⟩)
    go_wp2_with fail
    refine hK.out _ _ ?_ (fun hHeld => ?_)
    case refine_1 => (exact trivial)
    clear hK K
    try simp only [Act.put, List.setIfInBounds_toArray, List.set_cons_zero, List.set_cons_succ]
    refine wpAnyH_ready (rs := [6]) (by kernel_rfl) (by simp) ?_
    refine AllReadyH.cons rfl (fun K hK => ?_) AllReadyH.nil
    go_simp
    (go_at_call 19; refine (CA2.out _).mono ?_; rintro e w5 ⟨rfl, hw5⟩)
    go_wp2_with fail
    refine hK.out _ _ ?_ (fun hHeld => ?_)
    case refine_1 => (exact trivial)
    clear hK K
    try simp only [Act.put, List.setIfInBounds_toArray, List.set_cons_zero, List.set_cons_succ]
    refine wpAnyH_ready (rs := [9]) (by kernel_rfl) (by simp) ?_
    refine AllReadyH.cons rfl (fun K hK => ?_) AllReadyH.nil
    go_simp
    (go_at_call 19; refine (CA1.out _).mono ?_; rintro e w6 ⟨rfl, hw6⟩)
    go_wp2_with fail
    refine hK.out _ _ ?_ (fun hHeld => ?_)
    case refine_1 => (exact trivial)
    clear hK K
    try simp only [Act.put, List.setIfInBounds_toArray, List.set_cons_zero, List.set_cons_succ]
    refine wpAnyH_take (i := 12) (oi := ⟨some 49, _, _, _, _, _⟩) (v := ?_) rfl (by kernel_rfl) (by kernel_rfl) (by kernel_rfl) (fun _ _ _ h => h) (Or.inl ⟨by kernel_rfl, ?_⟩) (by assumption) ?_
    case refine_2 => (intro w hSw; (try dsimp only at hSw); go_simp; (try with_reducible rfl))
    try simp only [Act.put, List.setIfInBounds_toArray, List.set_cons_zero, List.set_cons_succ]
    refine wpAnyH_ready (rs := [14]) (by kernel_rfl) (by simp) ?_
    refine AllReadyH.cons rfl (fun K hK => ?_) AllReadyH.nil
    go_simp
    refine hK.out _ _ ?_ (fun hHeld => ?_)
    case refine_1 => (exact trivial)
    clear hK K
    try simp only [Act.put, List.setIfInBounds_toArray, List.set_cons_zero, List.set_cons_succ]
    refine wpAnyH_take (i := 15) (oi := ⟨some 52, _, _, _, _, _⟩) (v := ?_) rfl (by kernel_rfl) (by kernel_rfl) (by kernel_rfl) (fun _ _ _ h => h) (Or.inl ⟨by kernel_rfl, ?_⟩) (by assumption) ?_
    case refine_2 => (intro w hSw; (try dsimp only at hSw); go_simp; (try with_reducible rfl))
    try simp only [Act.put, List.setIfInBounds_toArray, List.set_cons_zero, List.set_cons_succ]
    refine wpAnyH_done (by kernel_rfl) ?_ _
    have hb6 : Below w.heap.size w w6 := by
      have k4 := hb2.trans ((((Below.refl _ _).drew).trans hw4).mono hb2.size)
      have k5 := k4.trans (hw5.mono k4.size)
      exact k5.trans (hw6.mono k5.size)
    go_wp2_with fail
    go_loopw [53] (fun vk wr => ∃ k : Nat, vk = .int .i64 k ∧ k ≤ 5 ∧ Hid (Below (w6.heap.size + 1) (w6.alloc (.cells #[.string (str T0), .string (str T1), .string (str T2), .string (str T3), .string (str [48])] 9)) wr)) (fun vk _ => 5 - (intOf vk).toNat)
    case atStart => exact ⟨0, rfl, by omega, Below.refl _ _⟩
    case round =>
      obtain ⟨k, rfl, hk, hB⟩ := hrel
      have hbr : Below w.heap.size w wr := (hb6.trans ((Below.refl _ _).alloc hb6.size _)).trans (hB.out.mono (Nat.le_trans hb6.size (Nat.le_succ _)))
      by_cases hlt : k < 5
      · obtain ⟨t, ht, hcell0⟩ := cells5 w6 9 T0 T1 T2 T3 [48] k hlt
        have hcell : wr.cell? ⟨w6.heap.size, k, none⟩ = some (.string (str t)) := by rw [hB.out.cell (p := ⟨w6.heap.size, k, none⟩) (by simp)]; exact hcell0
        have PL := Lib.hid (V.out t (List.mem_cons_of_mem _ ht) wr)
        clear ht hcell0
        go_wp2_with (go_at_call 16; refine PL.out.mono ?_; rintro e w8 ⟨rfl, hw8⟩)
        go_roundw
        case rel => exact ⟨k + 1, by go_num, by omega, hB.out.trans ((hw8.mono (by have := hB.out.size; simpa using this)).trans ((Below.refl _ _).alloc (Nat.le_trans (by have := hB.out.size; simpa using this) hw8.size) _))⟩
        case measure => simp [intOf]; omega
      · by_cases hM : M = []
        · have hem : (str M).toList.isEmpty = true := by rw [Lib.toList_data, hM]; rfl
          clear hM
          go_wp2_with fail
          go_ret
          exact ⟨rfl, hbr⟩
        · have hem : (str M).toList.isEmpty = false := by rw [Lib.toList_data]; simpa [str] using hM
          have P1 := Lib.hid (show ∀ wx, Below w.heap.size w wx → Calls Tryd.prog 16 #[.string (str E1)] wx fun e w' => e = .returned (.tuple #[.bool false, .agg #[.int .i64 1, .string (str pbText), .string (str E1)]]) ∧ Below wx.heap.size wx w' from fun wx hb => HP.out wx hb hM)
          have P2 := Lib.hid (show ∀ wx, Below w.heap.size w wx → Calls Tryd.prog 16 #[.string (str E2)] wx fun e w' => e = .returned (.tuple #[.bool false, .agg #[.int .i64 1, .string (str pbText), .string (str E2)]]) ∧ Below wx.heap.size wx w' from fun wx hb => HQ.out wx hb hM)
          have tok1 : True := trivial
          clear hM HP HQ
          go_wp2_with (first
            | (go_at_call 16; have _t := tok1; clear tok1; refine (P1.out wr hbr).mono ?_; rintro e w8 ⟨rfl, hw8⟩; have hb8 := hbr.trans (hw8.mono hbr.size); have tok2 : True := trivial)
            | (go_at_call 16; have _t := tok2; clear tok2; refine (P2.out _ (hb8.trans ((Below.refl _ _).alloc hb8.size _))).mono ?_; rintro e w9 ⟨rfl, hw9⟩; have hb9 := (hb8.trans ((Below.refl _ _).alloc hb8.size _)).trans (hw9.mono (Nat.le_trans hb8.size (by simp))); obtain ⟨hc9, hf9⟩ := bcell hw9; have hs9 : w8.heap.size < w9.heap.size := Nat.lt_of_lt_of_le (by simp) hw9.size))
          go_ret
          exact ⟨rfl, hb9.trans ((Below.refl _ _).alloc hb9.size _)⟩
  · have V := Lib.hid (show ∀ t, t ∈ [[116, 114, 117, 101], [116], [84], [84, 82, 85, 69], [84, 114, 117, 101], [49]] → ∀ wx, Calls Tryd.prog 16 #[.string (str t)] wx fun e w' => e = .returned (.tuple #[.bool true, .agg #[.int .i64 0, .string (str []), .string (str [])]]) ∧ Below wx.heap.size wx w' from fun t ht wx => by
      have h1 : ∀ t ∈ [[116, 114, 117, 101], [116], [84], [84, 82, 85, 69], [84, 114, 117, 101], [49]], pbOk t = true ∧ pbVal t = true := by decide +kernel
      have h := ParseBool_ok t wx (h1 t ht).1
      rw [(h1 t ht).2] at h; exact h)
    have V0 := Lib.hid (V.out [116, 114, 117, 101] (by simp))
    have CA1 := Lib.hid (show ∀ wx, Calls Tryd.prog 19 #[.string (str [116])] wx fun e w' => e = .returned (.string (str [84])) ∧ Below wx.heap.size wx w' from fun wx => capitals_any [116] wx (by decide))
    have CA2 := Lib.hid (show ∀ wx, Calls Tryd.prog 19 #[.string (str [116, 114, 117, 101])] wx fun e w' => e = .returned (.string (str [84, 82, 85, 69])) ∧ Below wx.heap.size wx w' from fun wx => capitals_any [116, 114, 117, 101] wx (by decide))
    have hsl1 : ∀ wx, (Instr.slice 9 (.string (str [116, 114, 117, 101])) none (some (.int .i64 1)) none).run Tryd.prog wx = .ok (.string (str [116])) wx := fun wx => by kernel_rfl
    have hsl2 : ∀ wx, (Instr.slice 9 (.string (str [116, 114, 117, 101])) (some (.int .i64 1)) none none).run Tryd.prog wx = .ok (.string (str [114, 117, 101])) wx := fun wx => by kernel_rfl
    have hcat : str [84] ++ str [114, 117, 101] = str [84, 114, 117, 101] := str_append _ _
    obtain ⟨SS, hSS⟩ : ∃ X : List UInt8, X = [116, 114, 117, 101] := ⟨_, rfl⟩
    obtain ⟨T0, hT0⟩ : ∃ X : List UInt8, X = [116] := ⟨_, rfl⟩
    obtain ⟨T1, hT1⟩ : ∃ X : List UInt8, X = [84] := ⟨_, rfl⟩
    obtain ⟨T2, hT2⟩ : ∃ X : List UInt8, X = [84, 82, 85, 69] := ⟨_, rfl⟩
    obtain ⟨T3, hT3⟩ : ∃ X : List UInt8, X = [84, 114, 117, 101] := ⟨_, rfl⟩
    obtain ⟨ST, hST⟩ : ∃ X : List UInt8, X = [114, 117, 101] := ⟨_, rfl⟩
    have HP := Lib.hid (fun wx (hbx : Below w.heap.size w wx) (hne : M ≠ []) => ParseBool_err ([116, 114, 117, 101] ++ M) wx (behind hne (by decide)) aS aR (hE.below hbx) (by simp; omega))
    have HQ := Lib.hid (fun wx (hbx : Below w.heap.size w wx) (hne : M ≠ []) => ParseBool_err (M ++ [116, 114, 117, 101]) wx (before hne (by decide)) aS aR (hE.below hbx) (by simp; omega))
    rw [← hSS] at V V0 CA2 hsl1 hsl2 HP HQ
    rw [← hT0, ← hT1, ← hT2, ← hT3] at V
    rw [← hT0] at hsl1
    rw [← hT0, ← hT1] at CA1
    rw [← hT2] at CA2
    rw [← hST] at hsl2
    rw [← hT3, ← hST, ← hT1] at hcat
    have zS : (str SS).size ≤ 5 := by rw [size_str, hSS]; decide
    have zA : ¬ 9223372036854775807 < (str T1).size + (str ST).size := by rw [size_str, size_str, hT1, hST]; decide
    have HSS := Lib.hid hSS
    have eS : (str SS).toList.isEmpty = false := by rw [Lib.toList_data, hSS]; rfl
    have c1 : str SS ++ str M = str (SS ++ M) := str_append _ _
    have c2 : str M ++ str SS = str (M ++ SS) := str_append _ _
    have z1 : ¬ 9223372036854775807 < (str SS).size + (str M).size := by rw [size_str M]; omega
    have z2 : ¬ 9223372036854775807 < (str M).size + (str SS).size := by rw [size_str M]; omega
    obtain ⟨E1, hE1⟩ : ∃ X, X = SS ++ M := ⟨_, rfl⟩
    obtain ⟨E2, hE2⟩ : ∃ X, X = M ++ SS := ⟨_, rfl⟩
    rw [← hE1] at HP c1
    rw [← hE2] at HQ c2
    have FB := Lib.hid (show ∀ wx, Calls Tryd.prog 18 #[.bool true] wx fun e w' => e = .returned (.string (str SS)) ∧ wx = w' from fun wx => by
      rw [HSS.out]
      go_enter Tryd.func18, Tryd.ntmps18
      go_wp2
      go_ret
      exact ⟨rfl, rfl⟩)
    clear hE hs hT0 hT1 hT2 hT3 hST hSS hE1 hE2
    go_enter Tryd.func5, Tryd.ntmps5
    go_wp2_with (first
      | (go_at_call 18; refine (FB.out w).mono ?_; rintro e w1 ⟨rfl, rfl⟩; clear FB)
      | (go_at_call 16; refine (V0.out _).mono ?_; rintro e w2 ⟨rfl, hw2⟩; clear V0))
    have hb2 := hw2.trans ((Below.refl _ _).alloc hw2.size (.cells #[.int .i64 0, .string (str []), .string (str [])] 25))
    refine wp_region_held_drew (S := fun _ => True) (by kernel_rfl) trivial (fun hHeld => ?_)
    refine wpAnyH_take (i := 0) (oi := ⟨some 37, _, _, _, _, _⟩) (v := ?_) rfl (by kernel_rfl) (by kernel_rfl) (by kernel_rfl) (fun _ _ _ h => h) (Or.inl ⟨by kernel_rfl, ?_⟩) (by assumption) ?_
    case refine_2 => (intro w hSw; (try dsimp only at hSw); go_simp; (try with_reducible rfl))
    try simp only [Act.put, List.setIfInBounds_toArray, List.set_cons_zero, List.set_cons_succ]
    refine wpAnyH_take (i := 1) (oi := ⟨some 38, _, _, _, _, _⟩) (v := ?_) rfl (by kernel_rfl) (by kernel_rfl) (by kernel_rfl) (fun _ _ _ h => h) (Or.inl ⟨by kernel_rfl, ?_⟩) (by assumption) ?_
    case refine_2 => (intro w hSw; (try dsimp only at hSw); go_simp; (try with_reducible rfl))
    try simp only [Act.put, List.setIfInBounds_toArray, List.set_cons_zero, List.set_cons_succ]
    refine wpAnyH_take (i := 2) (oi := ⟨some 39, _, _, _, _, _⟩) (v := ?_) rfl (by kernel_rfl) (by kernel_rfl) (by kernel_rfl) (fun _ _ _ h => h) (Or.inl ⟨by kernel_rfl, ?_⟩) (by assumption) ?_
    case refine_2 => (intro w hSw; (try dsimp only at hSw); go_simp; (try with_reducible rfl))
    try simp only [Act.put, List.setIfInBounds_toArray, List.set_cons_zero, List.set_cons_succ]
    refine wpAnyH_take (i := 3) (oi := ⟨some 40, _, _, _, _, _⟩) (v := ?_) rfl (by kernel_rfl) (by kernel_rfl) (by kernel_rfl) (fun _ _ _ h => h) (Or.inl ⟨by kernel_rfl, ?_⟩) (by assumption) ?_
    case refine_2 => (intro w hSw; (try dsimp only at hSw); go_simp; (try with_reducible rfl))
    try simp only [Act.put, List.setIfInBounds_toArray, List.set_cons_zero, List.set_cons_succ]
    refine wpAnyH_take (i := 5) (oi := ⟨some 42, _, _, _, _, _⟩) (v := ?_) rfl (by kernel_rfl) (by kernel_rfl) (by kernel_rfl) (fun _ _ _ h => h) (Or.inl ⟨by kernel_rfl, ?_⟩) (by assumption) ?_
    case refine_2 => (intro w hSw; (try dsimp only at hSw); go_simp; (try with_reducible rfl))
    try simp only [Act.put, List.setIfInBounds_toArray, List.set_cons_zero, List.set_cons_succ]
    refine wpAnyH_take (i := 7) (oi := ⟨some 44, _, _, _, _, _⟩) (v := ?_) rfl (by kernel_rfl) (by kernel_rfl) (by kernel_rfl) (fun _ _ _ h => h) (Or.inl ⟨by kernel_rfl, ?_⟩) (by assumption) ?_
    case refine_2 => (intro w hSw; (try dsimp only at hSw); go_simp; (try with_reducible rfl))
    try simp only [Act.put, List.setIfInBounds_toArray, List.set_cons_zero, List.set_cons_succ]
    refine wpAnyH_take (i := 8) (oi := ⟨some 45, _, _, _, _, _⟩) (v := ?_) rfl (by kernel_rfl) (by kernel_rfl) (by kernel_rfl) (fun _ _ _ h => h) (Or.inl ⟨by kernel_rfl, ?_⟩) (by assumption) ?_
    case refine_2 => (intro w hSw; (try dsimp only at hSw); go_simp; (try with_reducible rfl))
    try simp only [Act.put, List.setIfInBounds_toArray, List.set_cons_zero, List.set_cons_succ]
    refine wpAnyH_take (i := 10) (oi := ⟨some 47, _, _, _, _, _⟩) (v := ?_) rfl (by kernel_rfl) (by kernel_rfl) (by kernel_rfl) (fun _ _ _ h => h) (Or.inl ⟨by kernel_rfl, ?_⟩) (by assumption) ?_
    case refine_2 => (intro w hSw; (try dsimp only at hSw); go_simp; (try with_reducible rfl))
    try simp only [Act.put, List.setIfInBounds_toArray, List.set_cons_zero, List.set_cons_succ]
    refine wpAnyH_take (i := 11) (oi := ⟨some 48, _, _, _, _, _⟩) (v := ?_) rfl (by kernel_rfl) (by kernel_rfl) (by kernel_rfl) (fun _ _ _ h => h) (Or.inl ⟨by kernel_rfl, ?_⟩) (by assumption) ?_
    case refine_2 => (intro w hSw; (try dsimp only at hSw); go_simp; (try with_reducible rfl))
    try simp only [Act.put, List.setIfInBounds_toArray, List.set_cons_zero, List.set_cons_succ]
    refine wpAnyH_take (i := 13) (oi := ⟨some 50, _, _, _, _, _⟩) (v := ?_) rfl (by kernel_rfl) (by kernel_rfl) (by kernel_rfl) (fun _ _ _ h => h) (Or.inl ⟨by kernel_rfl, ?_⟩) (by assumption) ?_
    case refine_2 => (intro w hSw; (try dsimp only at hSw); go_simp; (try with_reducible rfl))
    try simp only [Act.put, List.setIfInBounds_toArray, List.set_cons_zero, List.set_cons_succ]
    refine wpAnyH_take (i := 16) (oi := ⟨some 53, _, _, _, _, _⟩) (v := ?_) rfl (by kernel_rfl) (by kernel_rfl) (by kernel_rfl) (fun _ _ _ h => h) (Or.inl ⟨by kernel_rfl, ?_⟩) (by assumption) ?_
    case refine_2 => (intro w hSw; (try dsimp only at hSw); go_simp; (try with_reducible rfl))
    try simp only [Act.put, List.setIfInBounds_toArray, List.set_cons_zero, List.set_cons_succ]
    refine wpAnyH_ready (rs := [4]) (by kernel_rfl) (by simp) ?_
    refine AllReadyH.cons rfl (fun K hK => ?_) AllReadyH.nil
    go_simp
    (go_at_call 19; refine (CA1.out _).mono ?_; rintro e w4 ⟨rfl, hw4⟩)
    go_wp2_with fail
    refine hK.out _ _ ?_ (fun hHeld => ?_)
    case refine_1 => (exact trivial)
    clear hK K
    try simp only [Act.put, List.setIfInBounds_toArray, List.set_cons_zero, List.set_cons_succ]
    refine wpAnyH_ready (rs := [6]) (by kernel_rfl) (by simp) ?_
    refine AllReadyH.cons rfl (fun K hK => ?_) AllReadyH.nil
    go_simp
    (go_at_call 19; refine (CA2.out _).mono ?_; rintro e w5 ⟨rfl, hw5⟩)
    go_wp2_with fail
    refine hK.out _ _ ?_ (fun hHeld => ?_)
    case refine_1 => (exact trivial)
    clear hK K
    try simp only [Act.put, List.setIfInBounds_toArray, List.set_cons_zero, List.set_cons_succ]
    refine wpAnyH_ready (rs := [9]) (by kernel_rfl) (by simp) ?_
    refine AllReadyH.cons rfl (fun K hK => ?_) AllReadyH.nil
    go_simp
    (go_at_call 19; refine (CA1.out _).mono ?_; rintro e w6 ⟨rfl, hw6⟩)
    go_wp2_with fail
    refine hK.out _ _ ?_ (fun hHeld => ?_)
    case refine_1 => (exact trivial)
    clear hK K
    try simp only [Act.put, List.setIfInBounds_toArray, List.set_cons_zero, List.set_cons_succ]
    refine wpAnyH_take (i := 12) (oi := ⟨some 49, _, _, _, _, _⟩) (v := ?_) rfl (by kernel_rfl) (by kernel_rfl) (by kernel_rfl) (fun _ _ _ h => h) (Or.inl ⟨by kernel_rfl, ?_⟩) (by assumption) ?_
    case refine_2 => (intro w hSw; (try dsimp only at hSw); go_simp; (try with_reducible rfl))
    try simp only [Act.put, List.setIfInBounds_toArray, List.set_cons_zero, List.set_cons_succ]
    refine wpAnyH_ready (rs := [14]) (by kernel_rfl) (by simp) ?_
    refine AllReadyH.cons rfl (fun K hK => ?_) AllReadyH.nil
    go_simp
    refine hK.out _ _ ?_ (fun hHeld => ?_)
    case refine_1 => (exact trivial)
    clear hK K
    try simp only [Act.put, List.setIfInBounds_toArray, List.set_cons_zero, List.set_cons_succ]
    refine wpAnyH_take (i := 15) (oi := ⟨some 52, _, _, _, _, _⟩) (v := ?_) rfl (by kernel_rfl) (by kernel_rfl) (by kernel_rfl) (fun _ _ _ h => h) (Or.inl ⟨by kernel_rfl, ?_⟩) (by assumption) ?_
    case refine_2 => (intro w hSw; (try dsimp only at hSw); go_simp; (try with_reducible rfl))
    try simp only [Act.put, List.setIfInBounds_toArray, List.set_cons_zero, List.set_cons_succ]
    refine wpAnyH_done (by kernel_rfl) ?_ _
    have hb6 : Below w.heap.size w w6 := by
      have k4 := hb2.trans ((((Below.refl _ _).drew).trans hw4).mono hb2.size)
      have k5 := k4.trans (hw5.mono k4.size)
      exact k5.trans (hw6.mono k5.size)
    go_wp2_with fail
    go_loopw [53] (fun vk wr => ∃ k : Nat, vk = .int .i64 k ∧ k ≤ 5 ∧ Hid (Below (w6.heap.size + 1) (w6.alloc (.cells #[.string (str T0), .string (str T1), .string (str T2), .string (str T3), .string (str [49])] 9)) wr)) (fun vk _ => 5 - (intOf vk).toNat)
    case atStart => exact ⟨0, rfl, by omega, Below.refl _ _⟩
    case round =>
      obtain ⟨k, rfl, hk, hB⟩ := hrel
      have hbr : Below w.heap.size w wr := (hb6.trans ((Below.refl _ _).alloc hb6.size _)).trans (hB.out.mono (Nat.le_trans hb6.size (Nat.le_succ _)))
      by_cases hlt : k < 5
      · obtain ⟨t, ht, hcell0⟩ := cells5 w6 9 T0 T1 T2 T3 [49] k hlt
        have hcell : wr.cell? ⟨w6.heap.size, k, none⟩ = some (.string (str t)) := by rw [hB.out.cell (p := ⟨w6.heap.size, k, none⟩) (by simp)]; exact hcell0
        have PL := Lib.hid (V.out t (List.mem_cons_of_mem _ ht) wr)
        clear ht hcell0
        go_wp2_with (go_at_call 16; refine PL.out.mono ?_; rintro e w8 ⟨rfl, hw8⟩)
        go_roundw
        case rel => exact ⟨k + 1, by go_num, by omega, hB.out.trans ((hw8.mono (by have := hB.out.size; simpa using this)).trans ((Below.refl _ _).alloc (Nat.le_trans (by have := hB.out.size; simpa using this) hw8.size) _))⟩
        case measure => simp [intOf]; omega
      · by_cases hM : M = []
        · have hem : (str M).toList.isEmpty = true := by rw [Lib.toList_data, hM]; rfl
          clear hM
          go_wp2_with fail
          go_ret
          exact ⟨rfl, hbr⟩
        · have hem : (str M).toList.isEmpty = false := by rw [Lib.toList_data]; simpa [str] using hM
          have P1 := Lib.hid (show ∀ wx, Below w.heap.size w wx → Calls Tryd.prog 16 #[.string (str E1)] wx fun e w' => e = .returned (.tuple #[.bool false, .agg #[.int .i64 1, .string (str pbText), .string (str E1)]]) ∧ Below wx.heap.size wx w' from fun wx hb => HP.out wx hb hM)
          have P2 := Lib.hid (show ∀ wx, Below w.heap.size w wx → Calls Tryd.prog 16 #[.string (str E2)] wx fun e w' => e = .returned (.tuple #[.bool false, .agg #[.int .i64 1, .string (str pbText), .string (str E2)]]) ∧ Below wx.heap.size wx w' from fun wx hb => HQ.out wx hb hM)
          have tok1 : True := trivial
          clear hM HP HQ
          go_wp2_with (first
            | (go_at_call 16; have _t := tok1; clear tok1; refine (P1.out wr hbr).mono ?_; rintro e w8 ⟨rfl, hw8⟩; have hb8 := hbr.trans (hw8.mono hbr.size); have tok2 : True := trivial)
            | (go_at_call 16; have _t := tok2; clear tok2; refine (P2.out _ (hb8.trans ((Below.refl _ _).alloc hb8.size _))).mono ?_; rintro e w9 ⟨rfl, hw9⟩; have hb9 := (hb8.trans ((Below.refl _ _).alloc hb8.size _)).trans (hw9.mono (Nat.le_trans hb8.size (by simp))); obtain ⟨hc9, hf9⟩ := bcell hw9; have hs9 : w8.heap.size < w9.heap.size := Nat.lt_of_lt_of_le (by simp) hw9.size))
          go_ret
          exact ⟨rfl, hb9.trans ((Below.refl _ _).alloc hb9.size _)⟩
end Go.Proofs.YtjjocdhgjbhnhaaDoor.fnBools
