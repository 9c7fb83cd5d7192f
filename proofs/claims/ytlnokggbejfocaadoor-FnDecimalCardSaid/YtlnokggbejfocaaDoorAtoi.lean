/-
  Contract: internal/strconv.Atoi at every text.
-/
import Derived.Test.YtlnokggbejfocaaDoorPlainAtoi
import Derived.Test.YtlnokggbejfocaaDoorRowAt
import Derived.Test.YtlnokggbejfocaaDoorByteInfo
import Derived.Test.YtlnokggbejfocaaDoorParse
import Derived.Test.YtlnokggbejfocaaDoorSpecBase
import Derived.Outline
namespace Go.Proofs.YtlnokggbejfocaaDoor
open Go.RowKit
set_option maxRecDepth 100000
set_option linter.unusedVariables false
set_option linter.unusedSimpArgs false
theorem iAtoi_long (l : List UInt8) (w : World) (hl : l.length ≤ 140737488355328) (h : l = [] ∨ 19 ≤ l.length) :
    Calls Tryd.prog 40 #[.string (str l)] w fun e w' => e = .returned (pIv (pIe l 10 0).1 (pIe l 10 0).2) ∧ Below w.heap.size w w' := by
  have C := iParseInt_e l 10 0 w (.inr (by omega)) (by omega) (by omega) hl
  rw [show (10 : Int).toNat = 10 from rfl, show (0 : Int).toNat = 0 from rfl] at C
  generalize pIe l 10 0 = r at *
  obtain ⟨v, k⟩ := r
  unfold pIv at C ⊢
  simp only at C ⊢
  obtain ⟨ev, hev⟩ : ∃ ev, ev = errV k := ⟨_, rfl⟩
  rw [← hev] at C ⊢
  obtain ⟨n, hn⟩ : ∃ n, n = l.length := ⟨_, rfl⟩
  have eL : (str l).size = n := by rw [size_str, hn]
  have C := Lib.hid C
  by_cases h0 : n = 0
  · subst h0
    clear hev hn h hl
    go_enter Tryd.func40, Tryd.ntmps40
    go_wp2_with (go_at_call 34; refine C.out.mono ?_; rintro e w1 ⟨rfl, hw1⟩)
    all_goals first | (exfalso; omega) | skip
    go_ret2
    exact ⟨rfl, hw1⟩
  · have h19 : 19 ≤ n := by
      rcases h with h | h
      · exact absurd (by rw [hn, h]; rfl) h0
      · omega
    have hn2 : n ≤ 140737488355328 := by omega
    clear hev hn h hl h0
    go_enter Tryd.func40, Tryd.ntmps40
    go_wp2_with (go_at_call 34; refine C.out.mono ?_; rintro e w1 ⟨rfl, hw1⟩)
    all_goals first | (exfalso; omega) | skip
    go_ret2
    exact ⟨rfl, hw1⟩
theorem aLoop_drop {m : List UInt8} {i n : Nat} {c : UInt8} (hc : m[i]? = some c) : aLoop (m.drop i) n = if 48 ≤ c.toNat ∧ c.toNat ≤ 57 then aLoop (m.drop (i + 1)) (n * 10 + (c.toNat - 48)) else none := by
  have hi : i < m.length := (List.getElem?_eq_some_iff.1 hc).1
  rw [List.drop_eq_getElem_cons hi, aLoop]
  rw [List.getElem?_eq_getElem hi] at hc
  rw [Option.some.inj hc]
theorem aBad {m : List UInt8} (h : aLoop m 0 = none) : allD 10 m = false := by
  rw [aLoop_eq] at h
  cases hA : allD 10 m
  · rfl
  · rw [hA, if_pos rfl] at h; cases h
theorem aGood {m : List UInt8} {n : Nat} (h : aLoop m 0 = some n) : allD 10 m = true ∧ foldV 10 m 0 = n := by
  rw [aLoop_eq] at h
  cases hA : allD 10 m
  · rw [hA, if_neg (by simp)] at h; cases h
  · rw [hA, if_pos rfl] at h; exact ⟨rfl, Option.some.inj h⟩
theorem ten_step {i : Nat} : 10 ^ (i + 1) = 10 * 10 ^ i := by rw [Nat.pow_succ, Nat.mul_comm]
set_option maxHeartbeats 8000000 in
theorem iAtoi_fast (l : List UInt8) (w : World) (h0 : l ≠ []) (h19 : l.length < 19) :
    Calls Tryd.prog 40 #[.string (str l)] w fun e w' => e = .returned (pIv (pIe l 10 0).1 (pIe l 10 0).2) ∧ Below w.heap.size w w' := by
  have hP := pIe_short h0 h19
  obtain ⟨k, hk⟩ : ∃ k, k = l.length := ⟨_, rfl⟩
  have eL : (str l).size = k := by rw [size_str, hk]
  have k1 : 1 ≤ k := by rw [hk]; exact List.length_pos_iff.2 h0
  have k18 : k < 19 := by omega
  obtain ⟨c0, hc0⟩ : ∃ c, l[0]? = some c := ⟨l[0]'(by rw [← hk]; exact k1), List.getElem?_eq_getElem (by rw [← hk]; exact k1)⟩
  have hidx := idx_str0 (P := Tryd.prog) 9 Tryd.underlying9 hc0
  have hsl := slice_str1 (P := Tryd.prog) 9 Tryd.underlying9 l (by rw [← hk]; exact k1)
  obtain ⟨y, hy⟩ : ∃ y : Int, y = (c0.toNat : Int) := ⟨_, rfl⟩
  rw [← hy] at hidx
  by_cases hs : c0 = 45 ∨ c0 = 43
  · have hm : noSign l = l.drop 1 := by rw [noSign, if_pos (by rw [hc0]; rcases hs with h | h <;> simp [h])]
    rw [hm] at hP
    have hdl : (l.drop 1).length = k - 1 := by rw [List.length_drop, hk]
    obtain ⟨m, hmd⟩ : ∃ m, m = l.drop 1 := ⟨_, rfl⟩
    rw [← hmd] at hP hsl hdl
    obtain ⟨q, hq⟩ : ∃ q, q = m.length := ⟨_, rfl⟩
    have HQ := Lib.hid hq
    have hqk : q = k - 1 := by rw [hq, hdl]
    have eM : (str m).size = q := by rw [size_str, hq]
    have q18 : q < 19 := by omega
    by_cases hm0 : m = []
    · have HE := Lib.hid (show pIe l 10 0 = (0, 2) by rw [hP, if_pos (.inl hm0)])
      have q0 : q = 0 := by rw [hq, hm0]; rfl
      rcases hs with h45 | h43
      · have q1 : y = 45 := by rw [hy, h45]; rfl
        subst q1
        subst q0
        clear hP hk hc0 hy hm hdl hmd hq hqk hm0 h45 h0 h19
        go_enter Tryd.func40, Tryd.ntmps40
        go_wp2_with fail
        all_goals first | (exfalso; omega) | skip
        go_ret2
        exact ⟨by rw [HE.out]; rfl, Below.refl _ _⟩
      · have q1 : y = 43 := by rw [hy, h43]; rfl
        subst q1
        subst q0
        clear hP hk hc0 hy hm hdl hmd hq hqk hm0 h43 h0 h19
        go_enter Tryd.func40, Tryd.ntmps40
        go_wp2_with fail
        all_goals first | (exfalso; omega) | skip
        go_ret2
        exact ⟨by rw [HE.out]; rfl, Below.refl _ _⟩
    · have hmne : m ≠ [] := hm0
      have hq1 : 1 ≤ q := by rw [hq]; exact List.length_pos_iff.2 hm0
      rcases hs with h45 | h43
      · have q1 : y = 45 := by rw [hy, h45]; rfl
        rw [hc0, h45, if_pos (show some (45 : UInt8) = some 45 from rfl)] at hP
        subst q1
        clear hk hc0 hy hm hdl hmd hq hqk hm0 h45 h0 h19
        have hcv := Lib.run_convert_string_bytes (P := Tryd.prog) w 9 38 5 (str m) Tryd.underlying9 Tryd.underlying38 Tryd.underlying5
        have HR := Lib.hid (rowAt_conv w 5 m)
        have HB := Lib.hid (Lib.bytesWorld_below w 5 (str m))
        rw [eM] at hcv
        obtain ⟨cp, hcp⟩ : ∃ cp, cp = grownCap w q 0 5 := ⟨_, rfl⟩
        obtain ⟨W, hW⟩ : ∃ W, W = Lib.bytesWorld w 5 (str m) := ⟨_, rfl⟩
        rw [← hcp, ← hW] at hcv
        rw [← hW] at HR HB
        clear hcp hW
        go_enter Tryd.func40, Tryd.ntmps40
        go_wp2_with fail
        all_goals first | (exfalso; omega) | skip
        clear hcv
        go_loopw [6, 49] (fun vn vi wr => ∃ i n : Nat, vi = .int .i64 i ∧ vn = .int .i64 (n : Int) ∧ i ≤ q ∧ n < 10 ^ i ∧ Hid (aLoop m 0 = aLoop (m.drop i) n) ∧ Hid (RowAt w.heap.size 5 m wr) ∧ Hid (Below w.heap.size w wr)) (fun _ vi _ => q - (intOf vi).toNat)
        case atStart => exact ⟨0, 0, rfl, rfl, Nat.zero_le _, by decide, rfl, HR.out, HB.out⟩
        case round =>
          obtain ⟨i, n, rfl, rfl, hi, hni, hA, hR, hB⟩ := hrel
          have hp18 : 10 ^ i ≤ 1000000000000000000 := ten_pow (by omega)
          by_cases hlt : i < q
          · have hp17 : 10 ^ i ≤ 100000000000000000 := by
              have := Nat.pow_le_pow_right (n := 10) (by omega) (show i ≤ 17 by omega)
              simpa using this
            obtain ⟨c, hc⟩ : ∃ c, m[i]? = some c := ⟨m[i]'(by rw [← HQ.out]; exact hlt), List.getElem?_eq_getElem (by rw [← HQ.out]; exact hlt)⟩
            obtain ⟨hcell, hf⟩ := hR.out.at_ hc
            have hstep := aLoop_drop (n := n) hc
            have hc256 := c.toNat_lt
            obtain ⟨x, hx⟩ : ∃ x : Int, x = (c.toNat : Int) := ⟨_, rfl⟩
            rw [← hx] at hcell
            by_cases hd : 48 ≤ c.toNat ∧ c.toNat ≤ 57
            · rw [if_pos hd] at hstep
              have HA := Lib.hid (hA.out.trans hstep)
              obtain ⟨d, hdd⟩ : ∃ d, d = c.toNat - 48 := ⟨_, rfl⟩
              obtain ⟨dI, hdI⟩ : ∃ dI : Int, dI = (d : Int) := ⟨_, rfl⟩
              rw [← hdd] at HA
              have hwr : IntKind.u8.wrap (x - 48) = dI := by rw [hdI, hdd, hx, IntKind.wrap_u8]; omega
              have d0 : 0 ≤ dI := by omega
              have d9 : dI ≤ 9 := by omega
              have HDI := Lib.hid hdI
              have a48 : 48 ≤ x := by omega
              have a57 : x ≤ 57 := by omega
              have hdx : x - 48 = dI := by omega
              have hnew : n * 10 + d < 10 ^ (i + 1) := by rw [ten_step]; omega
              have hnI : (n : Int) ≤ 99999999999999999 := by omega
              have hn0 : (0 : Int) ≤ (n : Int) := by omega
              have HN := Lib.hid hnew
              clear hx hd hstep hdd hdI hc hp18 hp17 hni hnew
              go_wp2_with fail
              all_goals first | (exfalso; omega) | skip
              go_roundw
              case rel => exact ⟨i + 1, n * 10 + d, by go_num, by have := HDI.out; first | (go_num; done) | (go_num; omega), by omega, HN.out, HA.out, hR.out, hB.out⟩
              case measure => simp [intOf]; omega
            · rw [if_neg hd] at hstep
              have HBAD := Lib.hid (aBad (hA.out.trans hstep))
              have HE := Lib.hid (show pIe l 10 0 = (0, 2) by rw [hP, if_pos (.inr HBAD.out)])
              obtain ⟨dI, hdI⟩ : ∃ dI : Int, dI = IntKind.u8.wrap (x - 48) := ⟨_, rfl⟩
              have hd9 : 9 < dI := by rw [hdI, hx, IntKind.wrap_u8]; omega
              have hwr : IntKind.u8.wrap (x - 48) = dI := hdI.symm
              clear hx hd hstep hdI hc hp18 hp17 hni hc256
              go_wp2_with fail
              all_goals first | (exfalso; omega) | skip
              go_ret2
              exact ⟨by rw [HE.out]; rfl, hB.out⟩
          · obtain rfl : i = q := by omega
            have hend := hA.out
            rw [List.drop_of_length_le (by rw [← HQ.out]; exact Nat.le_refl _), aLoop] at hend
            obtain ⟨g1, g2⟩ := aGood hend
            have HE := Lib.hid (show pIe l 10 0 = (-(n : Int), 0) by rw [hP, if_neg (by rw [g1]; simp; exact hmne), g2])
            have hnI : (n : Int) ≤ 999999999999999999 := by omega
            have hn0 : (0 : Int) ≤ (n : Int) := by omega
            clear hend g1 g2 hp18 hni hlt hi
            go_wp2_with fail
            all_goals first | (exfalso; omega) | skip
            go_ret2
            exact ⟨by rw [HE.out]; rfl, hB.out⟩
      · have q1 : y = 43 := by rw [hy, h43]; rfl
        rw [hc0, h43, if_neg (show ¬ (some (43 : UInt8) = some 45) by decide)] at hP
        subst q1
        clear hk hc0 hy hm hdl hmd hq hqk hm0 h43 h0 h19
        have hcv := Lib.run_convert_string_bytes (P := Tryd.prog) w 9 38 5 (str m) Tryd.underlying9 Tryd.underlying38 Tryd.underlying5
        have HR := Lib.hid (rowAt_conv w 5 m)
        have HB := Lib.hid (Lib.bytesWorld_below w 5 (str m))
        rw [eM] at hcv
        obtain ⟨cp, hcp⟩ : ∃ cp, cp = grownCap w q 0 5 := ⟨_, rfl⟩
        obtain ⟨W, hW⟩ : ∃ W, W = Lib.bytesWorld w 5 (str m) := ⟨_, rfl⟩
        rw [← hcp, ← hW] at hcv
        rw [← hW] at HR HB
        clear hcp hW
        go_enter Tryd.func40, Tryd.ntmps40
        go_wp2_with fail
        all_goals first | (exfalso; omega) | skip
        clear hcv
        go_loopw [6, 49] (fun vn vi wr => ∃ i n : Nat, vi = .int .i64 i ∧ vn = .int .i64 (n : Int) ∧ i ≤ q ∧ n < 10 ^ i ∧ Hid (aLoop m 0 = aLoop (m.drop i) n) ∧ Hid (RowAt w.heap.size 5 m wr) ∧ Hid (Below w.heap.size w wr)) (fun _ vi _ => q - (intOf vi).toNat)
        case atStart => exact ⟨0, 0, rfl, rfl, Nat.zero_le _, by decide, rfl, HR.out, HB.out⟩
        case round =>
          obtain ⟨i, n, rfl, rfl, hi, hni, hA, hR, hB⟩ := hrel
          have hp18 : 10 ^ i ≤ 1000000000000000000 := ten_pow (by omega)
          by_cases hlt : i < q
          · have hp17 : 10 ^ i ≤ 100000000000000000 := by
              have := Nat.pow_le_pow_right (n := 10) (by omega) (show i ≤ 17 by omega)
              simpa using this
            obtain ⟨c, hc⟩ : ∃ c, m[i]? = some c := ⟨m[i]'(by rw [← HQ.out]; exact hlt), List.getElem?_eq_getElem (by rw [← HQ.out]; exact hlt)⟩
            obtain ⟨hcell, hf⟩ := hR.out.at_ hc
            have hstep := aLoop_drop (n := n) hc
            have hc256 := c.toNat_lt
            obtain ⟨x, hx⟩ : ∃ x : Int, x = (c.toNat : Int) := ⟨_, rfl⟩
            rw [← hx] at hcell
            by_cases hd : 48 ≤ c.toNat ∧ c.toNat ≤ 57
            · rw [if_pos hd] at hstep
              have HA := Lib.hid (hA.out.trans hstep)
              obtain ⟨d, hdd⟩ : ∃ d, d = c.toNat - 48 := ⟨_, rfl⟩
              obtain ⟨dI, hdI⟩ : ∃ dI : Int, dI = (d : Int) := ⟨_, rfl⟩
              rw [← hdd] at HA
              have hwr : IntKind.u8.wrap (x - 48) = dI := by rw [hdI, hdd, hx, IntKind.wrap_u8]; omega
              have d0 : 0 ≤ dI := by omega
              have d9 : dI ≤ 9 := by omega
              have HDI := Lib.hid hdI
              have a48 : 48 ≤ x := by omega
              have a57 : x ≤ 57 := by omega
              have hdx : x - 48 = dI := by omega
              have hnew : n * 10 + d < 10 ^ (i + 1) := by rw [ten_step]; omega
              have hnI : (n : Int) ≤ 99999999999999999 := by omega
              have hn0 : (0 : Int) ≤ (n : Int) := by omega
              have HN := Lib.hid hnew
              clear hx hd hstep hdd hdI hc hp18 hp17 hni hnew
              go_wp2_with fail
              all_goals first | (exfalso; omega) | skip
              go_roundw
              case rel => exact ⟨i + 1, n * 10 + d, by go_num, by have := HDI.out; first | (go_num; done) | (go_num; omega), by omega, HN.out, HA.out, hR.out, hB.out⟩
              case measure => simp [intOf]; omega
            · rw [if_neg hd] at hstep
              have HBAD := Lib.hid (aBad (hA.out.trans hstep))
              have HE := Lib.hid (show pIe l 10 0 = (0, 2) by rw [hP, if_pos (.inr HBAD.out)])
              obtain ⟨dI, hdI⟩ : ∃ dI : Int, dI = IntKind.u8.wrap (x - 48) := ⟨_, rfl⟩
              have hd9 : 9 < dI := by rw [hdI, hx, IntKind.wrap_u8]; omega
              have hwr : IntKind.u8.wrap (x - 48) = dI := hdI.symm
              clear hx hd hstep hdI hc hp18 hp17 hni hc256
              go_wp2_with fail
              all_goals first | (exfalso; omega) | skip
              go_ret2
              exact ⟨by rw [HE.out]; rfl, hB.out⟩
          · obtain rfl : i = q := by omega
            have hend := hA.out
            rw [List.drop_of_length_le (by rw [← HQ.out]; exact Nat.le_refl _), aLoop] at hend
            obtain ⟨g1, g2⟩ := aGood hend
            have HE := Lib.hid (show pIe l 10 0 = ((n : Int), 0) by rw [hP, if_neg (by rw [g1]; simp; exact hmne), g2])
            have hnI : (n : Int) ≤ 999999999999999999 := by omega
            have hn0 : (0 : Int) ≤ (n : Int) := by omega
            clear hend g1 g2 hp18 hni hlt hi
            go_wp2_with fail
            all_goals first | (exfalso; omega) | skip
            go_ret2
            exact ⟨by rw [HE.out]; rfl, hB.out⟩
  · have h45 : c0 ≠ 45 := fun h => hs (.inl h)
    have h43 : c0 ≠ 43 := fun h => hs (.inr h)
    have hm : noSign l = l := noSign_of (by rw [hc0]; simpa using h45) (by rw [hc0]; simpa using h43)
    rw [hm, hc0, if_neg (show ¬ (some c0 = some 45) by simpa using h45)] at hP
    have q1 : (y == 45) = false := by rw [hy]; exact u8_ne (n := 45) (by omega) h45
    have q2 : (y == 43) = false := by rw [hy]; exact u8_ne (n := 43) (by omega) h43
    have hmne : l ≠ [] := h0
    have HQ := Lib.hid hk
    obtain ⟨m, hml⟩ : ∃ m, m = l := ⟨_, rfl⟩
    obtain ⟨q, hq⟩ : ∃ q, q = k := ⟨_, rfl⟩
    subst hml
    subst hq
    have eM := eL
    have q18 := k18
    have hq1 := k1
    clear hk hc0 hy hm hs h45 h43 h0 h19 hsl
    have hcv := Lib.run_convert_string_bytes (P := Tryd.prog) w 9 38 5 (str m) Tryd.underlying9 Tryd.underlying38 Tryd.underlying5
    have HR := Lib.hid (rowAt_conv w 5 m)
    have HB := Lib.hid (Lib.bytesWorld_below w 5 (str m))
    rw [eM] at hcv
    obtain ⟨cp, hcp⟩ : ∃ cp, cp = grownCap w q 0 5 := ⟨_, rfl⟩
    obtain ⟨W, hW⟩ : ∃ W, W = Lib.bytesWorld w 5 (str m) := ⟨_, rfl⟩
    rw [← hcp, ← hW] at hcv
    rw [← hW] at HR HB
    clear hcp hW
    go_enter Tryd.func40, Tryd.ntmps40
    go_wp2_with fail
    all_goals first | (exfalso; omega) | skip
    clear hcv
    go_loopw [6, 49] (fun vn vi wr => ∃ i n : Nat, vi = .int .i64 i ∧ vn = .int .i64 (n : Int) ∧ i ≤ q ∧ n < 10 ^ i ∧ Hid (aLoop m 0 = aLoop (m.drop i) n) ∧ Hid (RowAt w.heap.size 5 m wr) ∧ Hid (Below w.heap.size w wr)) (fun _ vi _ => q - (intOf vi).toNat)
    case atStart => exact ⟨0, 0, rfl, rfl, Nat.zero_le _, by decide, rfl, HR.out, HB.out⟩
    case round =>
      obtain ⟨i, n, rfl, rfl, hi, hni, hA, hR, hB⟩ := hrel
      have hp18 : 10 ^ i ≤ 1000000000000000000 := ten_pow (by omega)
      by_cases hlt : i < q
      · have hp17 : 10 ^ i ≤ 100000000000000000 := by
          have := Nat.pow_le_pow_right (n := 10) (by omega) (show i ≤ 17 by omega)
          simpa using this
        obtain ⟨c, hc⟩ : ∃ c, m[i]? = some c := ⟨m[i]'(by rw [← HQ.out]; exact hlt), List.getElem?_eq_getElem (by rw [← HQ.out]; exact hlt)⟩
        obtain ⟨hcell, hf⟩ := hR.out.at_ hc
        have hstep := aLoop_drop (n := n) hc
        have hc256 := c.toNat_lt
        obtain ⟨x, hx⟩ : ∃ x : Int, x = (c.toNat : Int) := ⟨_, rfl⟩
        rw [← hx] at hcell
        by_cases hd : 48 ≤ c.toNat ∧ c.toNat ≤ 57
        · rw [if_pos hd] at hstep
          have HA := Lib.hid (hA.out.trans hstep)
          obtain ⟨d, hdd⟩ : ∃ d, d = c.toNat - 48 := ⟨_, rfl⟩
          obtain ⟨dI, hdI⟩ : ∃ dI : Int, dI = (d : Int) := ⟨_, rfl⟩
          rw [← hdd] at HA
          have hwr : IntKind.u8.wrap (x - 48) = dI := by rw [hdI, hdd, hx, IntKind.wrap_u8]; omega
          have d0 : 0 ≤ dI := by omega
          have d9 : dI ≤ 9 := by omega
          have HDI := Lib.hid hdI
          have a48 : 48 ≤ x := by omega
          have a57 : x ≤ 57 := by omega
          have hdx : x - 48 = dI := by omega
          have hnew : n * 10 + d < 10 ^ (i + 1) := by rw [ten_step]; omega
          have hnI : (n : Int) ≤ 99999999999999999 := by omega
          have hn0 : (0 : Int) ≤ (n : Int) := by omega
          have HN := Lib.hid hnew
          clear hx hd hstep hdd hdI hc hp18 hp17 hni hnew
          go_wp2_with fail
          all_goals first | (exfalso; omega) | skip
          go_roundw
          case rel => exact ⟨i + 1, n * 10 + d, by go_num, by have := HDI.out; first | (go_num; done) | (go_num; omega), by omega, HN.out, HA.out, hR.out, hB.out⟩
          case measure => simp [intOf]; omega
        · rw [if_neg hd] at hstep
          have HBAD := Lib.hid (aBad (hA.out.trans hstep))
          have HE := Lib.hid (show pIe m 10 0 = (0, 2) by rw [hP, if_pos (.inr HBAD.out)])
          obtain ⟨dI, hdI⟩ : ∃ dI : Int, dI = IntKind.u8.wrap (x - 48) := ⟨_, rfl⟩
          have hd9 : 9 < dI := by rw [hdI, hx, IntKind.wrap_u8]; omega
          have hwr : IntKind.u8.wrap (x - 48) = dI := hdI.symm
          clear hx hd hstep hdI hc hp18 hp17 hni hc256
          go_wp2_with fail
          all_goals first | (exfalso; omega) | skip
          go_ret2
          exact ⟨by rw [HE.out]; rfl, hB.out⟩
      · obtain rfl : i = q := by omega
        have hend := hA.out
        rw [List.drop_of_length_le (by rw [← HQ.out]; exact Nat.le_refl _), aLoop] at hend
        obtain ⟨g1, g2⟩ := aGood hend
        have HE := Lib.hid (show pIe m 10 0 = ((n : Int), 0) by rw [hP, if_neg (by rw [g1]; simp; exact hmne), g2])
        have hnI : (n : Int) ≤ 999999999999999999 := by omega
        have hn0 : (0 : Int) ≤ (n : Int) := by omega
        clear hend g1 g2 hp18 hni hlt hi
        go_wp2_with fail
        all_goals first | (exfalso; omega) | skip
        go_ret2
        exact ⟨by rw [HE.out]; rfl, hB.out⟩
theorem iAtoi_e (l : List UInt8) (w : World) (hl : l.length ≤ 140737488355328) :
    Calls Tryd.prog 40 #[.string (str l)] w fun e w' => e = .returned (pIv (pIe l 10 0).1 (pIe l 10 0).2) ∧ Below w.heap.size w w' := by
  by_cases h : l = [] ∨ 19 ≤ l.length
  · exact iAtoi_long l w hl h
  · exact iAtoi_fast l w (fun e => h (.inl e)) (by
      have : ¬ 19 ≤ l.length := fun e => h (.inr e)
      omega)
end Go.Proofs.YtlnokggbejfocaaDoor
