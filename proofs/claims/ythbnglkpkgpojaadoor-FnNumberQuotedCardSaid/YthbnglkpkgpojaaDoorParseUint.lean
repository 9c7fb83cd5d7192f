/-
  Contract: internal/strconv.ParseUint at every text, base and size that are asked.
-/
import Derived.Test.YthbnglkpkgpojaaDoorUnder
import Derived.Test.YthbnglkpkgpojaaDoorRowAt
import Derived.Deep.DeepCutAuto
import Derived.Deep.CutBlock
import Derived.BigGuardPart
import Derived.Outline
namespace Go.Proofs.YthbnglkpkgpojaaDoor
open Go.RowKit
set_option maxRecDepth 100000
set_option linter.unusedVariables false
set_option linter.unusedSimpArgs false
/-- an error of internal/strconv: none, or its number -/
def errV (k : Nat) : Value := if k = 0 then .nilIface else .iface 91 (.int .i64 k)
def pUv (v k : Nat) : Value := .tuple #[.int .u64 v, errV k]
theorem pre_len (l : List UInt8) (base : Nat) : (pre l base).2.length ≤ l.length := by
  unfold pre; repeat' split
  all_goals simp
theorem cutoff_bd (b : Int) (h : 2 ≤ b) : 0 ≤ 18446744073709551615 / b ∧ 18446744073709551615 / b ≤ 9223372036854775807 := by
  have h1 : (0 : Int) ≤ 18446744073709551615 / b := Int.ediv_nonneg (by omega) (by omega)
  have h2 := Int.ediv_mul_le 18446744073709551615 (b := b) (by omega)
  have h3 : 18446744073709551615 / b * 2 ≤ 18446744073709551615 / b * b := Int.mul_le_mul_of_nonneg_left h h1
  omega
theorem cutoff_wrap (b : Int) (h : 2 ≤ b) : IntKind.u64.wrap (18446744073709551615 / b + 1) = 18446744073709551615 / b + 1 := by
  have := cutoff_bd b h
  rw [IntKind.wrap_u64]; omega
theorem scan_und {b mx : Nat} {b0 : Bool} {c : UInt8} {r : List UInt8} {n : Nat} {u : Bool} (h : c = 95 ∧ b0 = true) : scan b mx b0 (c :: r) n u = scan b mx b0 r n true := by rw [scan, if_pos h]
theorem scan_syn {b mx : Nat} {b0 : Bool} {c : UInt8} {r : List UInt8} {n : Nat} {u : Bool} (h : ¬ (c = 95 ∧ b0 = true)) (h2 : b ≤ digN c) : scan b mx b0 (c :: r) n u = .syn := by rw [scan, if_neg h, if_pos h2]
theorem scan_rng {b mx : Nat} {b0 : Bool} {c : UInt8} {r : List UInt8} {n : Nat} {u : Bool} (h : ¬ (c = 95 ∧ b0 = true)) (h2 : digN c < b) (h3 : mx < n * b + digN c) : scan b mx b0 (c :: r) n u = .rng := by rw [scan, if_neg h, if_neg (by omega), if_pos h3]
theorem scan_next {b mx : Nat} {b0 : Bool} {c : UInt8} {r : List UInt8} {n : Nat} {u : Bool} (h : ¬ (c = 95 ∧ b0 = true)) (h2 : digN c < b) (h3 : n * b + digN c ≤ mx) : scan b mx b0 (c :: r) n u = scan b mx b0 r (n * b + digN c) u := by rw [scan, if_neg h, if_neg (by omega), if_neg (by omega)]
theorem maxval_fin : ∀ B : Fin 65, 1 ≤ B.val → IntKind.u64.wrap (IntKind.u64.wrap ((2 : Int) ^ B.val) - 1) = ((2 ^ B.val - 1 : Nat) : Int) := by decide +kernel
theorem maxval (B : Nat) (h1 : 1 ≤ B) (h2 : B ≤ 64) : IntKind.u64.wrap (IntKind.u64.wrap ((2 : Int) ^ B) - 1) = ((2 ^ B - 1 : Nat) : Int) := maxval_fin ⟨B, by omega⟩ h1
theorem mx64_fin : ∀ B : Fin 65, 2 ^ B.val - 1 ≤ 18446744073709551615 := by decide +kernel
theorem over_cut {b acc mx d : Nat} {a : Int} (hb : (2 : Int) ≤ (b : Int)) (h : 18446744073709551615 / (b : Int) + 1 ≤ a) (ha : a = (acc : Int)) (hm : mx ≤ 18446744073709551615) : mx < acc * b + d := by
  have h1 := Int.lt_ediv_add_one_mul_self (18446744073709551615 : Int) (show (0 : Int) < (b : Int) by omega)
  have h2 : (18446744073709551615 / (b : Int) + 1) * (b : Int) ≤ (acc : Int) * (b : Int) := Int.mul_le_mul_of_nonneg_right (by omega) (by omega)
  rw [← Int.natCast_mul] at h2
  omega
theorem under_cut {b a p : Int} (hb : 2 ≤ b) (ha : 0 ≤ a) (h : a < 18446744073709551615 / b + 1) (hp : p = a * b) : 0 ≤ p ∧ p ≤ 18446744073709551615 := by
  subst hp
  have h1 : (0 : Int) ≤ a * b := Int.mul_nonneg ha (by omega)
  have h2 := Int.ediv_mul_le 18446744073709551615 (b := b) (by omega)
  have h3 : a * b ≤ 18446744073709551615 / b * b := Int.mul_le_mul_of_nonneg_right (by omega) (by omega)
  omega
set_option maxHeartbeats 8000000 in
theorem iParseUint_b (l : List UInt8) (base bits : Int) (w : World) (hne : l ≠ []) (hb : base = 0 ∨ 2 ≤ base ∧ base ≤ 36) (hb0 : 0 ≤ bits) (hb64 : bits ≤ 64) (hl : l.length ≤ 140737488355328) :
    Calls Tryd.prog 80 #[.string (str l), .int .i64 base, .int .i64 bits] w fun e w' => e = .returned (pUv (pUb l base.toNat bits.toNat).1 (pUb l base.toNat bits.toNat).2) ∧ Below w.heap.size w w' := by
  obtain ⟨R, hR⟩ : ∃ R, R = pUb l base.toNat bits.toNat := ⟨_, rfl⟩
  rw [← hR]
  obtain ⟨b0, hbz⟩ : ∃ b0 : Bool, b0 = (base == 0) := ⟨_, rfl⟩
  obtain ⟨bb, hbb⟩ : ∃ bb, bb = (pre l base.toNat).1 := ⟨_, rfl⟩
  obtain ⟨t, ht⟩ : ∃ t, t = (pre l base.toNat).2 := ⟨_, rfl⟩
  obtain ⟨B, hB⟩ : ∃ B : Nat, B = (if bits.toNat = 0 then 64 else bits.toNat) := ⟨_, rfl⟩
  obtain ⟨mx, hmx⟩ : ∃ mx, mx = 2 ^ B - 1 := ⟨_, rfl⟩
  have hR2 : R = resOf l mx (scan bb mx b0 t 0 false) := by
    rw [hR, pUb, hbb, ht, hmx, hB, show b0 = (base.toNat == 0) by rw [hbz, Bool.eq_iff_iff]; simp; omega]
  have hb2 : 2 ≤ bb ∧ bb ≤ 36 := by rw [hbb]; exact pre_base l _ (by omega)
  have htl : t.length ≤ l.length := by rw [ht]; exact pre_len l _
  have hB1 : 1 ≤ B ∧ B ≤ 64 := by rw [hB]; split <;> omega
  obtain ⟨n, hn⟩ : ∃ n, n = l.length := ⟨_, rfl⟩
  obtain ⟨k, hk⟩ : ∃ k, k = t.length := ⟨_, rfl⟩
  have hn1 : 1 ≤ n := by rw [hn]; exact List.length_pos_iff.2 hne
  have eL : (str l).size = n := by rw [size_str, hn]
  have eT : (str t).size = k := by rw [size_str, hk]
  have hem : (str l).toList.isEmpty = false := by rw [Lib.toList_data]; simpa [str] using hne
  obtain ⟨bI, hbI⟩ : ∃ bI : Int, bI = bb := ⟨_, rfl⟩
  obtain ⟨mI, hmI⟩ : ∃ mI : Int, mI = mx := ⟨_, rfl⟩
  have hmx64 : mx ≤ 18446744073709551615 := by rw [hmx]; exact mx64_fin ⟨B, by omega⟩
  obtain ⟨BI, hBI⟩ : ∃ BI : Int, BI = B := ⟨_, rfl⟩
  obtain ⟨ct, hct⟩ : ∃ ct : Int, ct = 18446744073709551615 / bI + 1 := ⟨_, rfl⟩
  rw [← hn] at hl htl
  rw [← hk] at htl
  have i1 : 2 ≤ bI := by omega
  have i2 : bI ≤ 36 := by omega
  have i3 : 1 ≤ BI := by omega
  have i4 : BI ≤ 64 := by omega
  have hbz' : (base == 0) = b0 := hbz.symm
  have HR := Lib.hid hR2
  have HBB := Lib.hid hbb
  have HT := Lib.hid ht
  have HB := Lib.hid hB
  have HMX := Lib.hid hmx
  have HN := Lib.hid hn
  have HK := Lib.hid hk
  have HBI := Lib.hid hbI
  have HBI2 := Lib.hid hBI
  have HCT := Lib.hid hct
  have HMI := Lib.hid hmI
  have mI64 : mI ≤ 18446744073709551615 := by omega
  have mI0 : 0 ≤ mI := by omega
  clear hR hR2 hbb ht hB hmx hn hk hbI hBI hct hmI hbz hb2 hB1 hne
  go_enter Tryd.func80, Tryd.ntmps80
  go_upto_block 0 with fail
  go_cut [0, 1] (fun v0 v1 wx => v0 = .string (str t) ∧ v1 = .int .i64 bI ∧ w = wx)
  case first =>
    by_cases h0 : base = 0
    · subst h0
      obtain ⟨c, hc⟩ : ∃ c, l[0]? = some c := ⟨l[0]'(by rw [← HN.out]; exact hn1), List.getElem?_eq_getElem (by rw [← HN.out]; exact hn1)⟩
      have hidx := idx_str0 (P := Tryd.prog) 9 Tryd.underlying9 hc
      obtain ⟨y, hy⟩ : ∃ y : Int, y = c.toNat := ⟨_, rfl⟩
      rw [← hy] at hidx
      clear hbz'
      by_cases h48 : c = 48
      · have y48 : (y == 48) = true := by rw [beq_iff_eq, hy]; exact (u8_int c 48 (by omega)).1 h48
        rw [h48] at hc
        have hsl1 := slice_str1 (P := Tryd.prog) 9 Tryd.underlying9 l (by rw [← HN.out]; exact hn1)
        have HC := Lib.hid hc
        clear hc h48 hy
        by_cases h3 : 3 ≤ n
        · obtain ⟨d, hd⟩ : ∃ d, l[1]? = some d := ⟨l[1]'(by rw [← HN.out]; omega), List.getElem?_eq_getElem (by rw [← HN.out]; omega)⟩
          have hidx1 := idx_str1 (P := Tryd.prog) 9 Tryd.underlying9 hd
          have hsl2 := slice_str2 (P := Tryd.prog) 9 Tryd.underlying9 l (by rw [← HN.out]; omega)
          have LC := Lib.hid (lower_any d w)
          obtain ⟨v, hv⟩ : ∃ v : Int, v = lowN d := ⟨_, rfl⟩
          rw [← hv] at LC
          have h3' : 3 ≤ l.length := by rw [← HN.out]; exact h3
          have hpre : pre l (0 : Int).toNat = if lowN d = 98 then (2, l.drop 2) else if lowN d = 111 then (8, l.drop 2) else if lowN d = 120 then (16, l.drop 2) else (8, l.drop 1) := by
            rw [pre, if_neg (by simp), if_neg (by rw [HC.out]; simp), hd]
            simp only [Option.map_some, Option.some.injEq, h3', true_and]
          by_cases v1 : v = 98
          · have H1 := Lib.hid (show pre l (0 : Int).toNat = (2, l.drop 2) by rw [hpre, if_pos (by omega)])
            have w1 : (v == 98) = true := by simpa using v1
            clear hpre hd hv v1 h3'
            go_wp2_with (go_at_call 97; refine LC.out.mono ?_; rintro e w1 ⟨rfl, rfl⟩)
            all_goals first | (exfalso; omega) | skip
            all_goals
              go_meet
              exact ⟨by rw [HT.out, H1.out], by rw [HBI.out, HBB.out, H1.out]; rfl, rfl⟩
          · have w1 : (v == 98) = false := by simpa using v1
            by_cases v2 : v = 111
            · have H1 := Lib.hid (show pre l (0 : Int).toNat = (8, l.drop 2) by rw [hpre, if_neg (by omega), if_pos (by omega)])
              have w2 : (v == 111) = true := by simpa using v2
              clear hpre hd hv v1 v2 h3'
              go_wp2_with (go_at_call 97; refine LC.out.mono ?_; rintro e w1 ⟨rfl, rfl⟩)
              all_goals first | (exfalso; omega) | skip
              all_goals
                go_meet
                exact ⟨by rw [HT.out, H1.out], by rw [HBI.out, HBB.out, H1.out]; rfl, rfl⟩
            · have w2 : (v == 111) = false := by simpa using v2
              by_cases v3 : v = 120
              · have H1 := Lib.hid (show pre l (0 : Int).toNat = (16, l.drop 2) by rw [hpre, if_neg (by omega), if_neg (by omega), if_pos (by omega)])
                have w3 : (v == 120) = true := by simpa using v3
                clear hpre hd hv v1 v2 v3 h3'
                go_wp2_with (go_at_call 97; refine LC.out.mono ?_; rintro e w1 ⟨rfl, rfl⟩)
                all_goals first | (exfalso; omega) | skip
                all_goals
                  go_meet
                  exact ⟨by rw [HT.out, H1.out], by rw [HBI.out, HBB.out, H1.out]; rfl, rfl⟩
              · have H1 := Lib.hid (show pre l (0 : Int).toNat = (8, l.drop 1) by rw [hpre, if_neg (by omega), if_neg (by omega), if_neg (by omega)])
                have w3 : (v == 120) = false := by simpa using v3
                clear hpre hd hv v1 v2 v3 h3'
                go_wp2_with (go_at_call 97; refine LC.out.mono ?_; rintro e w1 ⟨rfl, rfl⟩)
                all_goals first | (exfalso; omega) | skip
                all_goals
                  go_meet
                  exact ⟨by rw [HT.out, H1.out, List.drop_one], by rw [HBI.out, HBB.out, H1.out]; rfl, rfl⟩
        · have h3' : ¬ 3 ≤ l.length := by rw [← HN.out]; exact h3
          have H1 := Lib.hid (show pre l (0 : Int).toNat = (8, l.drop 1) by rw [pre, if_neg (by simp), if_neg (by rw [HC.out]; simp), if_neg (by omega), if_neg (by omega), if_neg (by omega)])
          clear h3'
          go_wp2_with fail
          all_goals first | (exfalso; omega) | skip
          all_goals
            go_meet
            exact ⟨by rw [HT.out, H1.out, List.drop_one], by rw [HBI.out, HBB.out, H1.out]; rfl, rfl⟩
      · have y48 : (y == 48) = false := by rw [beq_eq_false_iff_ne, hy]; exact fun h => h48 ((u8_int c 48 (by omega)).2 h)
        have H1 := Lib.hid (show pre l (0 : Int).toNat = (10, l) by rw [pre, if_neg (by simp), if_pos (by rw [hc]; simpa using h48)])
        clear hc h48 hy
        go_wp2_with fail
        all_goals first | (exfalso; omega) | skip
        all_goals
          go_meet
          exact ⟨by rw [HT.out, H1.out], by rw [HBI.out, HBB.out, H1.out]; rfl, rfl⟩
    · have q1 : 2 ≤ base := by omega
      have q2 : base ≤ 36 := by omega
      have H1 := Lib.hid (show pre l base.toNat = (base.toNat, l) by rw [pre, if_pos (by omega)])
      clear hbz'
      go_wp2_with fail
      all_goals first | (exfalso; omega) | skip
      all_goals
        go_meet
        exact ⟨by rw [HT.out, H1.out], by rw [HBI.out, HBB.out, H1.out]; congr 1; omega, rfl⟩
  case rest =>
    obtain ⟨rfl, rfl, rfl⟩ := hcut
    go_upto_if 77 with fail
    go_cut [2] (fun v2 wx => v2 = .int .i64 BI ∧ w = wx)
    case first =>
      by_cases h0 : bits = 0
      · subst h0
        go_wp2_with fail
        all_goals first | (exfalso; omega) | skip
        all_goals
          go_meet
          exact ⟨by rw [HBI2.out, HB.out]; rfl, rfl⟩
      · have q1 : 1 ≤ bits := by omega
        have q3 : (bits == 0) = false := by simpa using h0
        go_wp2_with fail
        all_goals first | (exfalso; omega) | skip
        all_goals
          go_meet
          exact ⟨by rw [HBI2.out, HB.out, if_neg (by omega)]; congr 1; omega, rfl⟩
    case rest =>
      obtain ⟨rfl, rfl⟩ := hcut
      go_upto_block 2 with fail
      go_cut [10] (fun v10 wx => v10 = .int .u64 ct ∧ w = wx)
      case first =>
        by_cases c10 : bI = 10
        · have C := Lib.hid (show ct = 1844674407370955162 by rw [HCT.out, c10]; rfl)
          have q : (bI == 10) = true := by simpa using c10
          clear c10
          go_wp2_with fail
          all_goals first | (exfalso; omega) | skip
          all_goals
            go_meet
            exact ⟨by rw [C.out], rfl⟩
        · have q : (bI == 10) = false := by simpa using c10
          by_cases c16 : bI = 16
          · have C := Lib.hid (show ct = 1152921504606846976 by rw [HCT.out, c16]; rfl)
            have q : (bI == 16) = true := by simpa using c16
            clear c16 c10
            go_wp2_with fail
            all_goals first | (exfalso; omega) | skip
            all_goals
              go_meet
              exact ⟨by rw [C.out], rfl⟩
          · have q2 : (bI == 16) = false := by simpa using c16
            clear c16 c10
            go_wp2_with fail
            all_goals first | (exfalso; omega) | skip
            all_goals
              go_meet
              exact ⟨by rw [HCT.out, cutoff_wrap bI i1], rfl⟩
      case rest =>
        obtain ⟨rfl, rfl⟩ := hcut
        have hcv := Lib.run_convert_string_bytes (P := Tryd.prog) w 9 39 5 (str t) Tryd.underlying9 Tryd.underlying39 Tryd.underlying5
        have HRow := Lib.hid (rowAt_conv w 5 t)
        have HBel := Lib.hid (Lib.bytesWorld_below w 5 (str t))
        rw [eT] at hcv
        obtain ⟨cp, hcp⟩ : ∃ cp, cp = grownCap w k 0 5 := ⟨_, rfl⟩
        obtain ⟨W, hW⟩ : ∃ W, W = Lib.bytesWorld w 5 (str t) := ⟨_, rfl⟩
        rw [← hcp, ← hW] at hcv
        rw [← hW] at HRow HBel
        clear hcp hW
        have hmv : IntKind.u64.wrap (IntKind.u64.wrap (2 ^ BI.toNat) - 1) = mI := by rw [HMI.out, HMX.out, show BI.toNat = B by have := HBI2.out; omega]; exact maxval B (by have := HBI2.out; omega) (by have := HBI2.out; omega)
        go_wp2_with fail
        clear hmv hcv
        go_loop [12, 13, 101] (fun v12 v13 vi => ∃ (i acc : Nat) (a : Int) (u : Bool), v12 = .bool u ∧ v13 = .int .u64 a ∧ vi = .int .i64 i ∧ i ≤ k ∧ 0 ≤ a ∧ a ≤ mI ∧ Hid (a = (acc : Int)) ∧ Hid (R = resOf l mx (scan bb mx b0 (t.drop i) acc u))) (fun _ _ vi => k - (intOf vi).toNat)
        case atStart => exact ⟨0, 0, 0, false, rfl, rfl, rfl, by omega, by omega, by omega, rfl, HR⟩
        case round =>
          obtain ⟨i, acc, a, u, rfl, rfl, rfl, hik, ha0, ha1, HA, HR0⟩ := hrel
          clear HR
          by_cases hlt : i < k
          · obtain ⟨c, hc⟩ : ∃ c, t[i]? = some c := ⟨t[i]'(by rw [← HK.out]; exact hlt), List.getElem?_eq_getElem (by rw [← HK.out]; exact hlt)⟩
            obtain ⟨hcell, hfr⟩ := HRow.out.at_ hc
            have HRR := Lib.hid (show R = resOf l mx (scan bb mx b0 (c :: t.drop (i + 1)) acc u) by rw [HR0.out, List.drop_eq_getElem_cons (by rw [← HK.out]; exact hlt)]; rw [List.getElem?_eq_some_iff] at hc; obtain ⟨_, hc⟩ := hc; rw [hc])
            have LC := Lib.hid (lower_any c W)
            obtain ⟨y, hy⟩ : ∃ y : Int, y = c.toNat := ⟨_, rfl⟩
            obtain ⟨v, hv⟩ : ∃ v : Int, v = lowN c := ⟨_, rfl⟩
            have hy256 : y < 256 := by have := c.toNat_lt; omega
            have hy0 : 0 ≤ y := by omega
            have hv256 : v < 256 := by have := (lowN_facts c).2.1; omega
            have hv0 : 0 ≤ v := by omega
            rw [← hy] at hcell LC
            rw [← hv] at LC
            have HY := Lib.hid hy
            have HV := Lib.hid hv
            have h95 : (y == 95) = true ↔ c = 95 := by rw [beq_iff_eq, hy]; exact (u8_int c 95 (by omega)).symm
            clear HR0 hc hy hv hfr
            by_cases hu : c = 95 ∧ b0 = true
            · obtain ⟨hu1, hu2⟩ := hu
              have y95 := h95.2 hu1
              have HE := Lib.hid (show R = resOf l mx (scan bb mx b0 (t.drop (i + 1)) acc true) by rw [HRR.out, scan_und ⟨hu1, hu2⟩])
              have HA2 := HA
              have hbt := Lib.hid hu2
              clear HRR HA h95 hu1 hbz'
              subst hu2
              go_wp2_with (go_at_call 97; refine LC.out.mono ?_; rintro e w1 ⟨rfl, rfl⟩)
              all_goals first | (exfalso; omega) | skip
              all_goals
                go_round
                case rel => exact ⟨i + 1, acc, a, true, rfl, rfl, by go_num, by omega, by omega, by omega, HA2.out, HE.out⟩
                case measure => simp [intOf]; omega
            · have hund := hu
              clear hu
              by_cases d1 : 48 ≤ y ∧ y ≤ 57
              · obtain ⟨d1, d2⟩ := d1
                have y95 : (y == 95) = false := by simp; omega
                clear h95
                have hd := Lib.hid (show y - 48 = (digN c : Int) by rw [digN_number (by have := HY.out; omega) (by have := HY.out; omega)]; have := HY.out; omega)
                have hd0 : (0 : Int) ≤ y - 48 := by omega
                by_cases e1 : bI ≤ y - 48
                · have HE := Lib.hid (show R = (0, 2) by rw [HRR.out, scan_syn hund (by have := hd.out; have := HBI.out; omega)]; rfl)
                  clear HRR HA hund
                  go_wp2_with (go_at_call 97; refine LC.out.mono ?_; rintro e w1 ⟨rfl, rfl⟩)
                  all_goals first | (exfalso; omega) | skip
                  all_goals
                    go_ret2
                    exact ⟨by rw [HE.out]; rfl, HBel.out⟩
                · by_cases e2 : ct ≤ a
                  · have HE := Lib.hid (show R = (mx, 1) by rw [HRR.out, scan_rng hund (by have := hd.out; have := HBI.out; omega) (over_cut (by rw [← HBI.out]; exact i1) (by rw [← HBI.out, ← HCT.out]; exact e2) HA.out hmx64)]; rfl)
                    clear HRR HA hund
                    go_wp2_with (go_at_call 97; refine LC.out.mono ?_; rintro e w1 ⟨rfl, rfl⟩)
                    all_goals first | (exfalso; omega) | skip
                    all_goals
                      go_ret2
                      exact ⟨by rw [HE.out]; show _ = Ending.returned (.tuple #[.int .u64 (mx : Int), errV 1]); rw [← HMI.out]; rfl, HBel.out⟩
                  · obtain ⟨pr, hpr⟩ : ∃ pr : Int, pr = a * bI := ⟨_, rfl⟩
                    have hp0 := under_cut i1 ha0 (by rw [← HCT.out]; omega) hpr
                    have hp1 : 0 ≤ pr := hp0.1
                    have hp2 : pr ≤ 18446744073709551615 := hp0.2
                    have hpn : Hid (((acc * bb + digN c : Nat) : Int) = pr + (y - 48)) := by show _ = _; rw [hpr, Int.natCast_add, Int.natCast_mul, ← hd.out, ← HBI.out, ← HA.out]
                    have hmul : a * bI = pr := hpr.symm
                    clear hp0 hpr
                    by_cases e3 : 18446744073709551616 ≤ pr + (y - 48)
                    · have hwr : IntKind.u64.wrap (pr + (y - 48)) = pr + (y - 48) - 18446744073709551616 := by rw [IntKind.wrap_u64]; omega
                      have HE := Lib.hid (show R = (mx, 1) by rw [HRR.out, scan_rng hund (by have := hd.out; have := HBI.out; omega) (by have := hpn.out; omega)]; rfl)
                      clear HRR HA hund hpn
                      go_wp2_with (go_at_call 97; refine LC.out.mono ?_; rintro e w1 ⟨rfl, rfl⟩)
                      all_goals first | (exfalso; omega) | skip
                      all_goals
                        go_ret2
                        exact ⟨by rw [HE.out]; show _ = Ending.returned (.tuple #[.int .u64 (mx : Int), errV 1]); rw [← HMI.out]; rfl, HBel.out⟩
                    · by_cases e4 : mI < pr + (y - 48)
                      · have HE := Lib.hid (show R = (mx, 1) by rw [HRR.out, scan_rng hund (by have := hd.out; have := HBI.out; omega) (by have := hpn.out; have := HMI.out; omega)]; rfl)
                        clear HRR HA hund hpn
                        go_wp2_with (go_at_call 97; refine LC.out.mono ?_; rintro e w1 ⟨rfl, rfl⟩)
                        all_goals first | (exfalso; omega) | skip
                        all_goals
                          go_ret2
                          exact ⟨by rw [HE.out]; show _ = Ending.returned (.tuple #[.int .u64 (mx : Int), errV 1]); rw [← HMI.out]; rfl, HBel.out⟩
                      · have HE := Lib.hid (show R = resOf l mx (scan bb mx b0 (t.drop (i + 1)) (acc * bb + digN c) u) by rw [HRR.out, scan_next hund (by have := hd.out; have := HBI.out; omega) (by have := hpn.out; have := HMI.out; omega)])
                        have HA2 := Lib.hid hpn.out.symm
                        clear HRR HA hund hpn
                        go_wp2_with (go_at_call 97; refine LC.out.mono ?_; rintro e w1 ⟨rfl, rfl⟩)
                        all_goals first | (exfalso; omega) | skip
                        all_goals
                          go_round
                          case rel => exact ⟨i + 1, acc * bb + digN c, _, u, rfl, rfl, by go_num, by omega, by omega, by omega, HA2.out, HE.out⟩
                          case measure => simp [intOf]; omega
              · by_cases d3 : 97 ≤ v ∧ v ≤ 122
                · obtain ⟨d3, d4⟩ := d3
                  have y95 : (y == 95) = false := by
                    rw [beq_eq_false_iff_ne]; rintro rfl
                    have e1 : c = 95 := h95.1 rfl
                    rw [e1] at HV
                    have e2 := HV.out
                    have e3 : lowN 95 = 127 := by decide
                    omega
                  clear h95
                  have hd := Lib.hid (show v - 97 + 10 = (digN c : Int) by have h := digN_letter (c := c) (by have := HV.out; omega) (by have := HV.out; omega); have := HV.out; omega)
                  have hd0 : (0 : Int) ≤ v - 97 + 10 := by omega
                  by_cases e1 : bI ≤ v - 97 + 10
                  · have HE := Lib.hid (show R = (0, 2) by rw [HRR.out, scan_syn hund (by have := hd.out; have := HBI.out; omega)]; rfl)
                    clear HRR HA hund
                    go_wp2_with (go_at_call 97; refine LC.out.mono ?_; rintro e w1 ⟨rfl, rfl⟩)
                    all_goals first | (exfalso; omega) | skip
                    all_goals
                      go_ret2
                      exact ⟨by rw [HE.out]; rfl, HBel.out⟩
                  · by_cases e2 : ct ≤ a
                    · have HE := Lib.hid (show R = (mx, 1) by rw [HRR.out, scan_rng hund (by have := hd.out; have := HBI.out; omega) (over_cut (by rw [← HBI.out]; exact i1) (by rw [← HBI.out, ← HCT.out]; exact e2) HA.out hmx64)]; rfl)
                      clear HRR HA hund
                      go_wp2_with (go_at_call 97; refine LC.out.mono ?_; rintro e w1 ⟨rfl, rfl⟩)
                      all_goals first | (exfalso; omega) | skip
                      all_goals
                        go_ret2
                        exact ⟨by rw [HE.out]; show _ = Ending.returned (.tuple #[.int .u64 (mx : Int), errV 1]); rw [← HMI.out]; rfl, HBel.out⟩
                    · obtain ⟨pr, hpr⟩ : ∃ pr : Int, pr = a * bI := ⟨_, rfl⟩
                      have hp0 := under_cut i1 ha0 (by rw [← HCT.out]; omega) hpr
                      have hp1 : 0 ≤ pr := hp0.1
                      have hp2 : pr ≤ 18446744073709551615 := hp0.2
                      have hpn : Hid (((acc * bb + digN c : Nat) : Int) = pr + (v - 97 + 10)) := by show _ = _; rw [hpr, Int.natCast_add, Int.natCast_mul, ← hd.out, ← HBI.out, ← HA.out]
                      have hmul : a * bI = pr := hpr.symm
                      clear hp0 hpr
                      by_cases e3 : 18446744073709551616 ≤ pr + (v - 97 + 10)
                      · have hwr : IntKind.u64.wrap (pr + (v - 97 + 10)) = pr + (v - 97 + 10) - 18446744073709551616 := by rw [IntKind.wrap_u64]; omega
                        have HE := Lib.hid (show R = (mx, 1) by rw [HRR.out, scan_rng hund (by have := hd.out; have := HBI.out; omega) (by have := hpn.out; omega)]; rfl)
                        clear HRR HA hund hpn
                        go_wp2_with (go_at_call 97; refine LC.out.mono ?_; rintro e w1 ⟨rfl, rfl⟩)
                        all_goals first | (exfalso; omega) | skip
                        all_goals
                          go_ret2
                          exact ⟨by rw [HE.out]; show _ = Ending.returned (.tuple #[.int .u64 (mx : Int), errV 1]); rw [← HMI.out]; rfl, HBel.out⟩
                      · by_cases e4 : mI < pr + (v - 97 + 10)
                        · have HE := Lib.hid (show R = (mx, 1) by rw [HRR.out, scan_rng hund (by have := hd.out; have := HBI.out; omega) (by have := hpn.out; have := HMI.out; omega)]; rfl)
                          clear HRR HA hund hpn
                          go_wp2_with (go_at_call 97; refine LC.out.mono ?_; rintro e w1 ⟨rfl, rfl⟩)
                          all_goals first | (exfalso; omega) | skip
                          all_goals
                            go_ret2
                            exact ⟨by rw [HE.out]; show _ = Ending.returned (.tuple #[.int .u64 (mx : Int), errV 1]); rw [← HMI.out]; rfl, HBel.out⟩
                        · have HE := Lib.hid (show R = resOf l mx (scan bb mx b0 (t.drop (i + 1)) (acc * bb + digN c) u) by rw [HRR.out, scan_next hund (by have := hd.out; have := HBI.out; omega) (by have := hpn.out; have := HMI.out; omega)])
                          have HA2 := Lib.hid hpn.out.symm
                          clear HRR HA hund hpn
                          go_wp2_with (go_at_call 97; refine LC.out.mono ?_; rintro e w1 ⟨rfl, rfl⟩)
                          all_goals first | (exfalso; omega) | skip
                          all_goals
                            go_round
                            case rel => exact ⟨i + 1, acc * bb + digN c, _, u, rfl, rfl, by go_num, by omega, by omega, by omega, HA2.out, HE.out⟩
                            case measure => simp [intOf]; omega
                · have hd := digN_nodigit (c := c) (by have := HY.out; omega) (by have := HV.out; omega)
                  have HE := Lib.hid (show R = (0, 2) by rw [HRR.out, scan_syn hund (by rw [hd]; have := HBI.out; omega)]; rfl)
                  clear HRR HA hd
                  cases y95 : (y == 95)
                  · clear hund h95
                    go_wp2_with (go_at_call 97; refine LC.out.mono ?_; rintro e w1 ⟨rfl, rfl⟩)
                    all_goals first | (exfalso; omega) | skip
                    all_goals
                      go_ret2
                      exact ⟨by rw [HE.out]; rfl, HBel.out⟩
                  · have hbf : b0 = false := by
                      cases hb0' : b0
                      · rfl
                      · exact absurd ⟨h95.1 y95, hb0'⟩ hund
                    clear hund h95 hbz'
                    subst hbf
                    go_wp2_with (go_at_call 97; refine LC.out.mono ?_; rintro e w1 ⟨rfl, rfl⟩)
                    all_goals first | (exfalso; omega) | skip
                    all_goals
                      go_ret2
                      exact ⟨by rw [HE.out]; rfl, HBel.out⟩
          · obtain rfl : i = k := by omega
            have hend := HR0.out
            rw [List.drop_of_length_le (by rw [← HK.out]; exact Nat.le_refl _), scan] at hend
            have UC := Lib.hid (underscoreOK_any l W (by rw [← HN.out]; exact hl))
            obtain ⟨uo, huo⟩ : ∃ uo, uo = uOK l := ⟨_, rfl⟩
            rw [← huo] at UC
            cases u
            · have HE := Lib.hid (show R = (acc, 0) by rw [hend, resOf, if_neg (by simp)])
              clear hend HR0 huo
              go_wp2_with fail
              all_goals first | (exfalso; omega) | skip
              go_ret2
              exact ⟨by rw [HE.out, HA.out]; rfl, HBel.out⟩
            · cases uo
              · have HE := Lib.hid (show R = (0, 2) by rw [hend, resOf, if_pos ⟨rfl, huo.symm⟩])
                clear hend HR0 huo
                go_wp2_with (go_at_call 98; refine UC.out.mono ?_; rintro e w1 ⟨rfl, rfl⟩)
                all_goals first | (exfalso; omega) | skip
                go_ret2
                exact ⟨by rw [HE.out]; rfl, HBel.out⟩
              · have HE := Lib.hid (show R = (acc, 0) by rw [hend, resOf, if_neg (by rw [← huo]; simp)])
                clear hend HR0 huo
                go_wp2_with (go_at_call 98; refine UC.out.mono ?_; rintro e w1 ⟨rfl, rfl⟩)
                all_goals first | (exfalso; omega) | skip
                go_ret2
                exact ⟨by rw [HE.out, HA.out]; rfl, HBel.out⟩
end Go.Proofs.YthbnglkpkgpojaaDoor
