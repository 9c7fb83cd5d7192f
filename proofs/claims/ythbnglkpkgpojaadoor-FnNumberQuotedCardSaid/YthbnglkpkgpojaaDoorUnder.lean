/-
  Contracts: internal/strconv.lower and internal/strconv.underscoreOK.
-/
import Derived.Test.YthbnglkpkgpojaaDoorPlainParse
import Derived.Test.YthbnglkpkgpojaaDoorShelf
import Derived.Test.YthbnglkpkgpojaaDoorStrWords
import Derived.WalkKit
import Derived.WalkSpells
import Derived.Lib.Hide
import Derived.Deep.DeepCutAuto
import Derived.BigGuardPart
import Derived.Outline
namespace Go.Proofs.YthbnglkpkgpojaaDoor
open Go.RowKit
set_option maxRecDepth 100000
set_option linter.unusedVariables false
set_option linter.unusedSimpArgs false
theorem lower_any (c : UInt8) (w : World) : Calls Tryd.prog 97 #[.int .u8 (c.toNat : Int)] w fun e w' => e = .returned (.int .u8 (lowN c : Int)) ∧ w = w' :=
  (Tryd.internal_strconv_lower (c.toNat : Int) w).mono fun e w' ⟨h1, h2⟩ => ⟨by rw [h1, (lowN_facts c).1], h2.symm⟩
def stC (s : Nat) : Int := if s = 0 then 94 else if s = 1 then 48 else if s = 2 then 95 else 33
def uPre (m : List UInt8) : Bool := decide (2 ≤ m.length ∧ m[0]? = some 48 ∧ (m[1]?.map lowN = some 98 ∨ m[1]?.map lowN = some 111 ∨ m[1]?.map lowN = some 120))
def uHex (m : List UInt8) : Bool := m[1]?.map lowN == some 120
theorem uOKn_pre {m : List UInt8} (h : uPre m = true) : uOKn m = uScan (uHex m) (m.drop 2) 1 := by
  unfold uOKn; rw [if_pos (by simpa [uPre] using h)]; rfl
theorem uOKn_no {m : List UInt8} (h : uPre m = false) : uOKn m = uScan false (m.drop 0) 0 := by
  unfold uOKn; rw [if_neg (by simpa [uPre] using h)]; rfl
theorem uScan_dig {x : Bool} {c : UInt8} {r : List UInt8} {s : Nat} (h : (48 ≤ c.toNat ∧ c.toNat ≤ 57) ∨ (x = true ∧ 97 ≤ lowN c ∧ lowN c ≤ 102)) : uScan x (c :: r) s = uScan x r 1 := by rw [uScan, if_pos h]
theorem uScan_und {x : Bool} {c : UInt8} {r : List UInt8} {s : Nat} (h : ¬ ((48 ≤ c.toNat ∧ c.toNat ≤ 57) ∨ (x = true ∧ 97 ≤ lowN c ∧ lowN c ≤ 102))) (h95 : c = 95) : uScan x (c :: r) s = if s = 1 then uScan x r 2 else false := by rw [uScan, if_neg h, if_pos h95]
theorem uScan_oth {x : Bool} {c : UInt8} {r : List UInt8} {s : Nat} (h : ¬ ((48 ≤ c.toNat ∧ c.toNat ≤ 57) ∨ (x = true ∧ 97 ≤ lowN c ∧ lowN c ≤ 102))) (h95 : ¬ c = 95) : uScan x (c :: r) s = if s = 2 then false else uScan x r 3 := by rw [uScan, if_neg h, if_neg h95]
theorem stC_ne48 {s : Nat} (h : ¬ s = 1) : (stC s != 48) = true := by
  unfold stC; repeat' split
  all_goals first | rfl | contradiction
theorem stC_ne95 {s : Nat} (h : ¬ s = 2) (h3 : s ≤ 3) : (stC s == 95) = false := by
  unfold stC; repeat' split
  all_goals first | rfl | contradiction
theorem stC_end {s : Nat} (h : s ≤ 3) : (stC s != 95) = (s != 2) := by
  have : s = 0 ∨ s = 1 ∨ s = 2 ∨ s = 3 := by omega
  rcases this with rfl | rfl | rfl | rfl <;> rfl
theorem u8_int (c : UInt8) (n : Nat) (h : n < 256) : (c = UInt8.ofNat n) ↔ (c.toNat : Int) = (n : Int) := by
  rw [← UInt8.toNat_inj, UInt8.toNat_ofNat', Nat.mod_eq_of_lt h]
  omega
set_option maxHeartbeats 4000000 in
theorem underscoreOK_any (l : List UInt8) (w : World) (hl : l.length ≤ 140737488355328) : Calls Tryd.prog 98 #[.string (str l)] w fun e w' => e = .returned (.bool (uOK l)) ∧ w = w' := by
  obtain ⟨z, hz⟩ : ∃ z, z = uOK l := ⟨_, rfl⟩
  obtain ⟨sg, hsg⟩ : ∃ sg : Bool, sg = decide (l[0]? = some 45 ∨ l[0]? = some 43) := ⟨_, rfl⟩
  obtain ⟨m, hm⟩ : ∃ m, m = noSign l := ⟨_, rfl⟩
  have hz2 : z = uOKn m := by rw [hz, hm]; rfl
  have hmt : sg = true → m = l.drop 1 := fun h => by rw [hm, noSign, if_pos (by rw [hsg] at h; simpa using h)]
  have hmf : sg = false → m = l := fun h => by rw [hm, noSign, if_neg (by rw [hsg] at h; simpa using h)]
  have hml : m.length ≤ l.length := by rw [hm, noSign]; split <;> simp
  rw [← hz]
  obtain ⟨p, hp⟩ : ∃ p, p = uPre m := ⟨_, rfl⟩
  obtain ⟨x, hx⟩ : ∃ x, x = (if p = true then uHex m else false) := ⟨_, rfl⟩
  obtain ⟨i0, hi0⟩ : ∃ i0 : Nat, i0 = (if p = true then 2 else 0) := ⟨_, rfl⟩
  obtain ⟨s0, hs0⟩ : ∃ s0 : Nat, s0 = (if p = true then 1 else 0) := ⟨_, rfl⟩
  have hfin : z = uScan x (m.drop i0) s0 := by
    rw [hz2, hx, hi0, hs0]
    cases hpp : p
    · rw [uOKn_no (by rw [← hp, hpp])]; rfl
    · rw [uOKn_pre (by rw [← hp, hpp])]; rfl
  have HZ := Lib.hid hfin
  have HSG := Lib.hid hsg
  have HMT := Lib.hid hmt
  have HMF := Lib.hid hmf
  have HP := Lib.hid hp
  have HX := Lib.hid hx
  have HI := Lib.hid hi0
  have HS0 := Lib.hid hs0
  have hp2 : p = true → 2 ≤ m.length := fun h => by rw [hp] at h; simp only [uPre, decide_eq_true_eq] at h; exact h.1
  have hi2 : i0 ≤ m.length := by
    rw [hi0]; split
    · exact hp2 ‹_›
    · omega
  have hs03 : s0 ≤ 3 := by rw [hs0]; split <;> omega
  clear hz hz2 hsg hm hmt hmf hp hx hi0 hs0 hfin
  obtain ⟨n, hn⟩ : ∃ n, n = l.length := ⟨_, rfl⟩
  obtain ⟨k, hk⟩ : ∃ k, k = m.length := ⟨_, rfl⟩
  have eL : (str l).size = n := by rw [size_str, hn]
  have eM : (str m).size = k := by rw [size_str, hk]
  rw [← hn] at hl hml
  rw [← hk] at hml hp2 hi2
  have HN := Lib.hid hn
  have HK := Lib.hid hk
  clear hn hk
  go_enter Tryd.func98, Tryd.ntmps98
  go_upto_region 3 with fail
  go_cut [18] (fun v wx => v = .bool sg ∧ w = wx)
  case first =>
    by_cases hn : n < 1
    · have hs : Hid (sg = false) := by
        show _ = _
        rw [HSG.out, List.getElem?_eq_none (by rw [← HN.out]; omega)]; rfl
      go_wp2_with fail
      all_goals first | (exfalso; omega) | skip
      all_goals
        go_meet
        exact ⟨by rw [hs.out], rfl⟩
    · obtain ⟨c, hc⟩ : ∃ c, l[0]? = some c := ⟨l[0]'(by rw [← HN.out]; omega), List.getElem?_eq_getElem (by rw [← HN.out]; omega)⟩
      have hidx := idx_str0 (P := Tryd.prog) 9 Tryd.underlying9 hc
      have b1 : sg = (((c.toNat : Int) == 45) || ((c.toNat : Int) == 43)) := by
        rw [HSG.out, hc, Bool.eq_iff_iff]
        simp only [decide_eq_true_eq, Option.some.injEq, Bool.or_eq_true, beq_iff_eq]
        rw [show (c = 45 ↔ _) from u8_int c 45 (by omega), show (c = 43 ↔ _) from u8_int c 43 (by omega)]; rfl
      have B1 := Lib.hid b1
      obtain ⟨y, hy⟩ : ∃ y : Int, y = c.toNat := ⟨_, rfl⟩
      rw [← hy] at hidx B1
      clear hy hc b1
      cases c1 : (y == 45)
      · go_wp2_with fail
        all_goals first | (exfalso; omega) | skip
        all_goals
          go_meet
          exact ⟨by rw [B1.out, c1]; rfl, rfl⟩
      · go_wp2_with fail
        all_goals first | (exfalso; omega) | skip
        all_goals
          go_meet
          exact ⟨by rw [B1.out, c1]; rfl, rfl⟩
  case rest =>
    obtain ⟨rfl, rfl⟩ := hcut
    go_upto_if 18 with fail
    go_cut [0] (fun v wx => v = .string (str m) ∧ w = wx)
    case first =>
      cases hsg : sg
      · have HM := Lib.hid (HMF.out hsg)
        go_wp2_with fail
        all_goals first | (exfalso; omega) | skip
        all_goals
          go_meet
          exact ⟨by rw [HM.out], rfl⟩
      · have HM := Lib.hid (HMT.out hsg)
        have h1 : 1 ≤ n := by
          rw [hsg] at HSG
          have := HSG.out.symm
          simp only [decide_eq_true_eq] at this
          rcases Nat.lt_or_ge n 1 with h | h
          · rw [List.getElem?_eq_none (by rw [← HN.out]; omega)] at this; simp at this
          · exact h
        have hsl := slice_str1 (P := Tryd.prog) 9 Tryd.underlying9 l (by rw [← HN.out]; exact h1)
        go_wp2_with fail
        all_goals first | (exfalso; omega) | skip
        all_goals
          go_meet
          exact ⟨by rw [HM.out, List.drop_one], rfl⟩
    case rest =>
      obtain ⟨rfl, rfl⟩ := hcut
      go_upto_region 6 with fail
      go_cut [46] (fun v wx => v = .bool p ∧ w = wx)
      case first =>
        by_cases hn : k < 2
        · have hs : Hid (p = false) := by
            show _ = _
            rw [HP.out]; simp only [uPre, decide_eq_false_iff_not]; rw [← HK.out]; omega
          go_wp2_with fail
          all_goals first | (exfalso; omega) | skip
          all_goals
            go_meet
            exact ⟨by rw [hs.out], rfl⟩
        · obtain ⟨c, hc⟩ : ∃ c, m[0]? = some c := ⟨m[0]'(by rw [← HK.out]; omega), List.getElem?_eq_getElem (by rw [← HK.out]; omega)⟩
          obtain ⟨d, hd⟩ : ∃ d, m[1]? = some d := ⟨m[1]'(by rw [← HK.out]; omega), List.getElem?_eq_getElem (by rw [← HK.out]; omega)⟩
          have hidx := idx_str0 (P := Tryd.prog) 9 Tryd.underlying9 hc
          have hidx1 := idx_str1 (P := Tryd.prog) 9 Tryd.underlying9 hd
          have b1 : p = (((c.toNat : Int) == 48) && ((((lowN d : Nat) : Int) == 98) || (((lowN d : Nat) : Int) == 111) || (((lowN d : Nat) : Int) == 120))) := by
            rw [HP.out, uPre, hc, hd, Bool.eq_iff_iff]
            simp only [decide_eq_true_eq, Option.map_some, Option.some.injEq, Bool.or_eq_true, Bool.and_eq_true, beq_iff_eq]
            rw [← HK.out, show (c = 48 ↔ _) from u8_int c 48 (by omega)]
            omega
          have LC := Lib.hid (lower_any d w)
          have B1 := Lib.hid b1
          obtain ⟨y, hy⟩ : ∃ y : Int, y = c.toNat := ⟨_, rfl⟩
          obtain ⟨v, hv⟩ : ∃ v : Int, v = lowN d := ⟨_, rfl⟩
          rw [← hy] at hidx B1
          rw [← hv] at LC B1
          clear hy hc hd b1 hv
          cases c1 : (y == 48)
          · go_wp2_with fail
            all_goals first | (exfalso; omega) | skip
            all_goals
              go_meet
              exact ⟨by rw [B1.out, c1]; rfl, rfl⟩
          · cases c2 : (v == 98)
            · cases c3 : (v == 111)
              · go_wp2_with (go_at_call 97; refine LC.out.mono ?_; rintro e w1 ⟨rfl, rfl⟩)
                all_goals first | (exfalso; omega) | skip
                all_goals
                  go_meet
                  exact ⟨by rw [B1.out, c1, c2, c3]; rfl, rfl⟩
              · go_wp2_with (go_at_call 97; refine LC.out.mono ?_; rintro e w1 ⟨rfl, rfl⟩)
                all_goals first | (exfalso; omega) | skip
                all_goals
                  go_meet
                  exact ⟨by rw [B1.out, c1, c2, c3]; rfl, rfl⟩
            · go_wp2_with (go_at_call 97; refine LC.out.mono ?_; rintro e w1 ⟨rfl, rfl⟩)
              all_goals first | (exfalso; omega) | skip
              all_goals
                go_meet
                exact ⟨by rw [B1.out, c1, c2]; rfl, rfl⟩
      case rest =>
        obtain ⟨rfl, rfl⟩ := hcut
        go_upto_if 46 with fail
        go_cut [3, 4, 5] (fun v3 v4 v5 wx => v3 = .int .i32 (stC s0) ∧ v4 = .int .i64 i0 ∧ v5 = .bool x ∧ w = wx)
        case first =>
          cases hpp : p
          · have H1 := Lib.hid (show x = false by rw [HX.out, hpp]; rfl)
            have H2 := Lib.hid (show i0 = 0 by rw [HI.out, hpp]; rfl)
            have H3 := Lib.hid (show s0 = 0 by rw [HS0.out, hpp]; rfl)
            go_wp2_with fail
            all_goals first | (exfalso; omega) | skip
            all_goals
              go_meet
              exact ⟨by rw [H3.out]; rfl, by rw [H2.out]; rfl, by rw [H1.out], rfl⟩
          · have H2 := Lib.hid (show i0 = 2 by rw [HI.out, hpp]; rfl)
            have H3 := Lib.hid (show s0 = 1 by rw [HS0.out, hpp]; rfl)
            have h2 : 2 ≤ k := hp2 hpp
            obtain ⟨d, hd⟩ : ∃ d, m[1]? = some d := ⟨m[1]'(by rw [← HK.out]; omega), List.getElem?_eq_getElem (by rw [← HK.out]; omega)⟩
            have H1 := Lib.hid (show x = (((lowN d : Nat) : Int) == 120) by rw [HX.out, hpp, if_pos rfl, uHex, hd, Bool.eq_iff_iff]; simp; omega)
            have hidx1 := idx_str1 (P := Tryd.prog) 9 Tryd.underlying9 hd
            have LC := Lib.hid (lower_any d w)
            obtain ⟨v, hv⟩ : ∃ v : Int, v = lowN d := ⟨_, rfl⟩
            rw [← hv] at LC H1
            clear hv hd
            go_wp2_with (go_at_call 97; refine LC.out.mono ?_; rintro e w1 ⟨rfl, rfl⟩)
            all_goals first | (exfalso; omega) | skip
            all_goals
              go_meet
              exact ⟨by rw [H3.out]; rfl, by rw [H2.out]; rfl, by rw [H1.out], rfl⟩
        case rest =>
          obtain ⟨rfl, rfl, rfl, rfl⟩ := hcut
          go_wp2_with fail
          go_loop [3, 4] (fun v3 v4 => ∃ (i s : Nat) (t : Int), v3 = .int .i32 t ∧ v4 = .int .i64 i ∧ i ≤ k ∧ s ≤ 3 ∧ Hid (t = stC s) ∧ Hid (z = uScan x (m.drop i) s)) (fun _ v4 => k - (intOf v4).toNat)
          case atStart => exact ⟨i0, s0, _, rfl, rfl, hi2, hs03, rfl, HZ⟩
          case round =>
            obtain ⟨i, s, t, rfl, rfl, hik, hs3, HT, HR0⟩ := hrel
            by_cases hlt : i < k
            · obtain ⟨c, hc⟩ : ∃ c, m[i]? = some c := ⟨m[i]'(by rw [← HK.out]; exact hlt), List.getElem?_eq_getElem (by rw [← HK.out]; exact hlt)⟩
              have hidx := fun wx => idx_str (P := Tryd.prog) 9 Tryd.underlying9 .i64 hc wx
              have HR := Lib.hid (show z = uScan x (c :: m.drop (i + 1)) s by rw [HR0.out, List.drop_eq_getElem_cons (by rw [← HK.out]; exact hlt)]; rw [List.getElem?_eq_some_iff] at hc; obtain ⟨_, hc⟩ := hc; rw [hc])
              have LC := Lib.hid (lower_any c w)
              obtain ⟨y, hy⟩ : ∃ y : Int, y = c.toNat := ⟨_, rfl⟩
              obtain ⟨v, hv⟩ : ∃ v : Int, v = lowN c := ⟨_, rfl⟩
              rw [← hy] at hidx LC
              rw [← hv] at LC
              have hyy := Lib.hid hy
              have hvv := Lib.hid hv
              clear HR0 hc hy hv HZ
              by_cases h1 : 48 ≤ y
              · by_cases h2 : y ≤ 57
                · have hh : 48 ≤ c.toNat ∧ c.toNat ≤ 57 := by have := hyy.out; omega
                  have HE := Lib.hid (show z = uScan x (m.drop (i + 1)) 1 by rw [HR.out, uScan_dig (.inl hh)])
                  clear HR HT hh
                  go_wp2_with (go_at_call 97; refine LC.out.mono ?_; rintro e w1 ⟨rfl, rfl⟩)
                  all_goals first | (exfalso; omega) | skip
                  all_goals
                    go_round
                    case rel => exact ⟨i + 1, 1, _, rfl, by go_num, by omega, by omega, rfl, HE.out⟩
                    case measure => simp [intOf]; omega
                · skip
                  have hnd : ¬ (48 ≤ c.toNat ∧ c.toNat ≤ 57) := by have := hyy.out; omega
                  cases hx : x
                  · rw [hx] at HR
                    have H0 : ¬ ((48 ≤ c.toNat ∧ c.toNat ≤ 57) ∨ (false = true ∧ 97 ≤ lowN c ∧ lowN c ≤ 102)) := fun h => h.elim hnd (fun h => by cases h.1)
                    clear hnd
                    have hcond := H0
                    by_cases h95 : c = 95
                    · have y95 : (y == 95) = true := by rw [beq_iff_eq, hyy.out]; exact (u8_int c 95 (by omega)).1 h95
                      by_cases hs1 : s = 1
                      · have HE := Lib.hid (show z = uScan false (m.drop (i + 1)) 2 by rw [HR.out, uScan_und hcond h95, if_pos hs1])
                        have t48 : (t != 48) = false := by rw [HT.out, hs1]; rfl
                        clear HR HT hs1 h95 hcond
                        go_wp2_with (go_at_call 97; refine LC.out.mono ?_; rintro e w1 ⟨rfl, rfl⟩)
                        all_goals first | (exfalso; omega) | skip
                        all_goals
                          go_round
                          case rel => exact ⟨i + 1, 2, _, rfl, by go_num, by omega, by omega, rfl, (by first | exact HE | (rw [hx]; exact HE))⟩
                          case measure => simp [intOf]; omega
                      · have HE := Lib.hid (show z = false by rw [HR.out, uScan_und hcond h95, if_neg hs1])
                        have t48 : (t != 48) = true := by rw [HT.out]; exact stC_ne48 hs1
                        clear HR HT hs1 h95 hcond
                        go_wp2_with (go_at_call 97; refine LC.out.mono ?_; rintro e w1 ⟨rfl, rfl⟩)
                        all_goals first | (exfalso; omega) | skip
                        all_goals
                          go_ret
                          exact ⟨by rw [HE.out]; rfl, rfl⟩
                    · have y95 : (y == 95) = false := by rw [beq_eq_false_iff_ne, hyy.out]; exact fun h => h95 ((u8_int c 95 (by omega)).2 h)
                      by_cases hs2 : s = 2
                      · have HE := Lib.hid (show z = false by rw [HR.out, uScan_oth hcond h95, if_pos hs2])
                        have t95 : (t == 95) = true := by rw [HT.out, hs2]; rfl
                        clear HR HT hs2 h95 hcond
                        go_wp2_with (go_at_call 97; refine LC.out.mono ?_; rintro e w1 ⟨rfl, rfl⟩)
                        all_goals first | (exfalso; omega) | skip
                        all_goals
                          go_ret
                          exact ⟨by rw [HE.out]; rfl, rfl⟩
                      · have HE := Lib.hid (show z = uScan false (m.drop (i + 1)) 3 by rw [HR.out, uScan_oth hcond h95, if_neg hs2])
                        have t95 : (t == 95) = false := by rw [HT.out]; exact stC_ne95 hs2 hs3
                        clear HR HT hs2 h95 hcond
                        go_wp2_with (go_at_call 97; refine LC.out.mono ?_; rintro e w1 ⟨rfl, rfl⟩)
                        all_goals first | (exfalso; omega) | skip
                        all_goals
                          go_round
                          case rel => exact ⟨i + 1, 3, _, rfl, by go_num, by omega, by omega, rfl, (by first | exact HE | (rw [hx]; exact HE))⟩
                          case measure => simp [intOf]; omega
                  · rw [hx] at HR
                    by_cases h3 : 97 ≤ v
                    · by_cases h4 : v ≤ 102
                      · have hh : 97 ≤ lowN c ∧ lowN c ≤ 102 := by have := hvv.out; omega
                        have HE := Lib.hid (show z = uScan true (m.drop (i + 1)) 1 by rw [HR.out, uScan_dig (.inr ⟨rfl, hh⟩)])
                        clear HR HT hh hnd
                        go_wp2_with (go_at_call 97; refine LC.out.mono ?_; rintro e w1 ⟨rfl, rfl⟩)
                        all_goals first | (exfalso; omega) | skip
                        all_goals
                          go_round
                          case rel => exact ⟨i + 1, 1, _, rfl, by go_num, by omega, by omega, rfl, (by first | exact HE | (rw [hx]; exact HE))⟩
                          case measure => simp [intOf]; omega
                      · have H0 : ¬ ((48 ≤ c.toNat ∧ c.toNat ≤ 57) ∨ (true = true ∧ 97 ≤ lowN c ∧ lowN c ≤ 102)) := by have := hvv.out; omega
                        clear hnd
                        have hcond := H0
                        by_cases h95 : c = 95
                        · have y95 : (y == 95) = true := by rw [beq_iff_eq, hyy.out]; exact (u8_int c 95 (by omega)).1 h95
                          by_cases hs1 : s = 1
                          · have HE := Lib.hid (show z = uScan true (m.drop (i + 1)) 2 by rw [HR.out, uScan_und hcond h95, if_pos hs1])
                            have t48 : (t != 48) = false := by rw [HT.out, hs1]; rfl
                            clear HR HT hs1 h95 hcond
                            go_wp2_with (go_at_call 97; refine LC.out.mono ?_; rintro e w1 ⟨rfl, rfl⟩)
                            all_goals first | (exfalso; omega) | skip
                            all_goals
                              go_round
                              case rel => exact ⟨i + 1, 2, _, rfl, by go_num, by omega, by omega, rfl, (by first | exact HE | (rw [hx]; exact HE))⟩
                              case measure => simp [intOf]; omega
                          · have HE := Lib.hid (show z = false by rw [HR.out, uScan_und hcond h95, if_neg hs1])
                            have t48 : (t != 48) = true := by rw [HT.out]; exact stC_ne48 hs1
                            clear HR HT hs1 h95 hcond
                            go_wp2_with (go_at_call 97; refine LC.out.mono ?_; rintro e w1 ⟨rfl, rfl⟩)
                            all_goals first | (exfalso; omega) | skip
                            all_goals
                              go_ret
                              exact ⟨by rw [HE.out]; rfl, rfl⟩
                        · have y95 : (y == 95) = false := by rw [beq_eq_false_iff_ne, hyy.out]; exact fun h => h95 ((u8_int c 95 (by omega)).2 h)
                          by_cases hs2 : s = 2
                          · have HE := Lib.hid (show z = false by rw [HR.out, uScan_oth hcond h95, if_pos hs2])
                            have t95 : (t == 95) = true := by rw [HT.out, hs2]; rfl
                            clear HR HT hs2 h95 hcond
                            go_wp2_with (go_at_call 97; refine LC.out.mono ?_; rintro e w1 ⟨rfl, rfl⟩)
                            all_goals first | (exfalso; omega) | skip
                            all_goals
                              go_ret
                              exact ⟨by rw [HE.out]; rfl, rfl⟩
                          · have HE := Lib.hid (show z = uScan true (m.drop (i + 1)) 3 by rw [HR.out, uScan_oth hcond h95, if_neg hs2])
                            have t95 : (t == 95) = false := by rw [HT.out]; exact stC_ne95 hs2 hs3
                            clear HR HT hs2 h95 hcond
                            go_wp2_with (go_at_call 97; refine LC.out.mono ?_; rintro e w1 ⟨rfl, rfl⟩)
                            all_goals first | (exfalso; omega) | skip
                            all_goals
                              go_round
                              case rel => exact ⟨i + 1, 3, _, rfl, by go_num, by omega, by omega, rfl, (by first | exact HE | (rw [hx]; exact HE))⟩
                              case measure => simp [intOf]; omega
                    · have H0 : ¬ ((48 ≤ c.toNat ∧ c.toNat ≤ 57) ∨ (true = true ∧ 97 ≤ lowN c ∧ lowN c ≤ 102)) := by have := hvv.out; omega
                      clear hnd
                      have hcond := H0
                      by_cases h95 : c = 95
                      · have y95 : (y == 95) = true := by rw [beq_iff_eq, hyy.out]; exact (u8_int c 95 (by omega)).1 h95
                        by_cases hs1 : s = 1
                        · have HE := Lib.hid (show z = uScan true (m.drop (i + 1)) 2 by rw [HR.out, uScan_und hcond h95, if_pos hs1])
                          have t48 : (t != 48) = false := by rw [HT.out, hs1]; rfl
                          clear HR HT hs1 h95 hcond
                          go_wp2_with (go_at_call 97; refine LC.out.mono ?_; rintro e w1 ⟨rfl, rfl⟩)
                          all_goals first | (exfalso; omega) | skip
                          all_goals
                            go_round
                            case rel => exact ⟨i + 1, 2, _, rfl, by go_num, by omega, by omega, rfl, (by first | exact HE | (rw [hx]; exact HE))⟩
                            case measure => simp [intOf]; omega
                        · have HE := Lib.hid (show z = false by rw [HR.out, uScan_und hcond h95, if_neg hs1])
                          have t48 : (t != 48) = true := by rw [HT.out]; exact stC_ne48 hs1
                          clear HR HT hs1 h95 hcond
                          go_wp2_with (go_at_call 97; refine LC.out.mono ?_; rintro e w1 ⟨rfl, rfl⟩)
                          all_goals first | (exfalso; omega) | skip
                          all_goals
                            go_ret
                            exact ⟨by rw [HE.out]; rfl, rfl⟩
                      · have y95 : (y == 95) = false := by rw [beq_eq_false_iff_ne, hyy.out]; exact fun h => h95 ((u8_int c 95 (by omega)).2 h)
                        by_cases hs2 : s = 2
                        · have HE := Lib.hid (show z = false by rw [HR.out, uScan_oth hcond h95, if_pos hs2])
                          have t95 : (t == 95) = true := by rw [HT.out, hs2]; rfl
                          clear HR HT hs2 h95 hcond
                          go_wp2_with (go_at_call 97; refine LC.out.mono ?_; rintro e w1 ⟨rfl, rfl⟩)
                          all_goals first | (exfalso; omega) | skip
                          all_goals
                            go_ret
                            exact ⟨by rw [HE.out]; rfl, rfl⟩
                        · have HE := Lib.hid (show z = uScan true (m.drop (i + 1)) 3 by rw [HR.out, uScan_oth hcond h95, if_neg hs2])
                          have t95 : (t == 95) = false := by rw [HT.out]; exact stC_ne95 hs2 hs3
                          clear HR HT hs2 h95 hcond
                          go_wp2_with (go_at_call 97; refine LC.out.mono ?_; rintro e w1 ⟨rfl, rfl⟩)
                          all_goals first | (exfalso; omega) | skip
                          all_goals
                            go_round
                            case rel => exact ⟨i + 1, 3, _, rfl, by go_num, by omega, by omega, rfl, (by first | exact HE | (rw [hx]; exact HE))⟩
                            case measure => simp [intOf]; omega
              · skip
                have hnd : ¬ (48 ≤ c.toNat ∧ c.toNat ≤ 57) := by have := hyy.out; omega
                cases hx : x
                · rw [hx] at HR
                  have H0 : ¬ ((48 ≤ c.toNat ∧ c.toNat ≤ 57) ∨ (false = true ∧ 97 ≤ lowN c ∧ lowN c ≤ 102)) := fun h => h.elim hnd (fun h => by cases h.1)
                  clear hnd
                  have hcond := H0
                  by_cases h95 : c = 95
                  · have y95 : (y == 95) = true := by rw [beq_iff_eq, hyy.out]; exact (u8_int c 95 (by omega)).1 h95
                    by_cases hs1 : s = 1
                    · have HE := Lib.hid (show z = uScan false (m.drop (i + 1)) 2 by rw [HR.out, uScan_und hcond h95, if_pos hs1])
                      have t48 : (t != 48) = false := by rw [HT.out, hs1]; rfl
                      clear HR HT hs1 h95 hcond
                      go_wp2_with (go_at_call 97; refine LC.out.mono ?_; rintro e w1 ⟨rfl, rfl⟩)
                      all_goals first | (exfalso; omega) | skip
                      all_goals
                        go_round
                        case rel => exact ⟨i + 1, 2, _, rfl, by go_num, by omega, by omega, rfl, (by first | exact HE | (rw [hx]; exact HE))⟩
                        case measure => simp [intOf]; omega
                    · have HE := Lib.hid (show z = false by rw [HR.out, uScan_und hcond h95, if_neg hs1])
                      have t48 : (t != 48) = true := by rw [HT.out]; exact stC_ne48 hs1
                      clear HR HT hs1 h95 hcond
                      go_wp2_with (go_at_call 97; refine LC.out.mono ?_; rintro e w1 ⟨rfl, rfl⟩)
                      all_goals first | (exfalso; omega) | skip
                      all_goals
                        go_ret
                        exact ⟨by rw [HE.out]; rfl, rfl⟩
                  · have y95 : (y == 95) = false := by rw [beq_eq_false_iff_ne, hyy.out]; exact fun h => h95 ((u8_int c 95 (by omega)).2 h)
                    by_cases hs2 : s = 2
                    · have HE := Lib.hid (show z = false by rw [HR.out, uScan_oth hcond h95, if_pos hs2])
                      have t95 : (t == 95) = true := by rw [HT.out, hs2]; rfl
                      clear HR HT hs2 h95 hcond
                      go_wp2_with (go_at_call 97; refine LC.out.mono ?_; rintro e w1 ⟨rfl, rfl⟩)
                      all_goals first | (exfalso; omega) | skip
                      all_goals
                        go_ret
                        exact ⟨by rw [HE.out]; rfl, rfl⟩
                    · have HE := Lib.hid (show z = uScan false (m.drop (i + 1)) 3 by rw [HR.out, uScan_oth hcond h95, if_neg hs2])
                      have t95 : (t == 95) = false := by rw [HT.out]; exact stC_ne95 hs2 hs3
                      clear HR HT hs2 h95 hcond
                      go_wp2_with (go_at_call 97; refine LC.out.mono ?_; rintro e w1 ⟨rfl, rfl⟩)
                      all_goals first | (exfalso; omega) | skip
                      all_goals
                        go_round
                        case rel => exact ⟨i + 1, 3, _, rfl, by go_num, by omega, by omega, rfl, (by first | exact HE | (rw [hx]; exact HE))⟩
                        case measure => simp [intOf]; omega
                · rw [hx] at HR
                  by_cases h3 : 97 ≤ v
                  · by_cases h4 : v ≤ 102
                    · have hh : 97 ≤ lowN c ∧ lowN c ≤ 102 := by have := hvv.out; omega
                      have HE := Lib.hid (show z = uScan true (m.drop (i + 1)) 1 by rw [HR.out, uScan_dig (.inr ⟨rfl, hh⟩)])
                      clear HR HT hh hnd
                      go_wp2_with (go_at_call 97; refine LC.out.mono ?_; rintro e w1 ⟨rfl, rfl⟩)
                      all_goals first | (exfalso; omega) | skip
                      all_goals
                        go_round
                        case rel => exact ⟨i + 1, 1, _, rfl, by go_num, by omega, by omega, rfl, (by first | exact HE | (rw [hx]; exact HE))⟩
                        case measure => simp [intOf]; omega
                    · have H0 : ¬ ((48 ≤ c.toNat ∧ c.toNat ≤ 57) ∨ (true = true ∧ 97 ≤ lowN c ∧ lowN c ≤ 102)) := by have := hvv.out; omega
                      clear hnd
                      have hcond := H0
                      by_cases h95 : c = 95
                      · have y95 : (y == 95) = true := by rw [beq_iff_eq, hyy.out]; exact (u8_int c 95 (by omega)).1 h95
                        by_cases hs1 : s = 1
                        · have HE := Lib.hid (show z = uScan true (m.drop (i + 1)) 2 by rw [HR.out, uScan_und hcond h95, if_pos hs1])
                          have t48 : (t != 48) = false := by rw [HT.out, hs1]; rfl
                          clear HR HT hs1 h95 hcond
                          go_wp2_with (go_at_call 97; refine LC.out.mono ?_; rintro e w1 ⟨rfl, rfl⟩)
                          all_goals first | (exfalso; omega) | skip
                          all_goals
                            go_round
                            case rel => exact ⟨i + 1, 2, _, rfl, by go_num, by omega, by omega, rfl, (by first | exact HE | (rw [hx]; exact HE))⟩
                            case measure => simp [intOf]; omega
                        · have HE := Lib.hid (show z = false by rw [HR.out, uScan_und hcond h95, if_neg hs1])
                          have t48 : (t != 48) = true := by rw [HT.out]; exact stC_ne48 hs1
                          clear HR HT hs1 h95 hcond
                          go_wp2_with (go_at_call 97; refine LC.out.mono ?_; rintro e w1 ⟨rfl, rfl⟩)
                          all_goals first | (exfalso; omega) | skip
                          all_goals
                            go_ret
                            exact ⟨by rw [HE.out]; rfl, rfl⟩
                      · have y95 : (y == 95) = false := by rw [beq_eq_false_iff_ne, hyy.out]; exact fun h => h95 ((u8_int c 95 (by omega)).2 h)
                        by_cases hs2 : s = 2
                        · have HE := Lib.hid (show z = false by rw [HR.out, uScan_oth hcond h95, if_pos hs2])
                          have t95 : (t == 95) = true := by rw [HT.out, hs2]; rfl
                          clear HR HT hs2 h95 hcond
                          go_wp2_with (go_at_call 97; refine LC.out.mono ?_; rintro e w1 ⟨rfl, rfl⟩)
                          all_goals first | (exfalso; omega) | skip
                          all_goals
                            go_ret
                            exact ⟨by rw [HE.out]; rfl, rfl⟩
                        · have HE := Lib.hid (show z = uScan true (m.drop (i + 1)) 3 by rw [HR.out, uScan_oth hcond h95, if_neg hs2])
                          have t95 : (t == 95) = false := by rw [HT.out]; exact stC_ne95 hs2 hs3
                          clear HR HT hs2 h95 hcond
                          go_wp2_with (go_at_call 97; refine LC.out.mono ?_; rintro e w1 ⟨rfl, rfl⟩)
                          all_goals first | (exfalso; omega) | skip
                          all_goals
                            go_round
                            case rel => exact ⟨i + 1, 3, _, rfl, by go_num, by omega, by omega, rfl, (by first | exact HE | (rw [hx]; exact HE))⟩
                            case measure => simp [intOf]; omega
                  · have H0 : ¬ ((48 ≤ c.toNat ∧ c.toNat ≤ 57) ∨ (true = true ∧ 97 ≤ lowN c ∧ lowN c ≤ 102)) := by have := hvv.out; omega
                    clear hnd
                    have hcond := H0
                    by_cases h95 : c = 95
                    · have y95 : (y == 95) = true := by rw [beq_iff_eq, hyy.out]; exact (u8_int c 95 (by omega)).1 h95
                      by_cases hs1 : s = 1
                      · have HE := Lib.hid (show z = uScan true (m.drop (i + 1)) 2 by rw [HR.out, uScan_und hcond h95, if_pos hs1])
                        have t48 : (t != 48) = false := by rw [HT.out, hs1]; rfl
                        clear HR HT hs1 h95 hcond
                        go_wp2_with (go_at_call 97; refine LC.out.mono ?_; rintro e w1 ⟨rfl, rfl⟩)
                        all_goals first | (exfalso; omega) | skip
                        all_goals
                          go_round
                          case rel => exact ⟨i + 1, 2, _, rfl, by go_num, by omega, by omega, rfl, (by first | exact HE | (rw [hx]; exact HE))⟩
                          case measure => simp [intOf]; omega
                      · have HE := Lib.hid (show z = false by rw [HR.out, uScan_und hcond h95, if_neg hs1])
                        have t48 : (t != 48) = true := by rw [HT.out]; exact stC_ne48 hs1
                        clear HR HT hs1 h95 hcond
                        go_wp2_with (go_at_call 97; refine LC.out.mono ?_; rintro e w1 ⟨rfl, rfl⟩)
                        all_goals first | (exfalso; omega) | skip
                        all_goals
                          go_ret
                          exact ⟨by rw [HE.out]; rfl, rfl⟩
                    · have y95 : (y == 95) = false := by rw [beq_eq_false_iff_ne, hyy.out]; exact fun h => h95 ((u8_int c 95 (by omega)).2 h)
                      by_cases hs2 : s = 2
                      · have HE := Lib.hid (show z = false by rw [HR.out, uScan_oth hcond h95, if_pos hs2])
                        have t95 : (t == 95) = true := by rw [HT.out, hs2]; rfl
                        clear HR HT hs2 h95 hcond
                        go_wp2_with (go_at_call 97; refine LC.out.mono ?_; rintro e w1 ⟨rfl, rfl⟩)
                        all_goals first | (exfalso; omega) | skip
                        all_goals
                          go_ret
                          exact ⟨by rw [HE.out]; rfl, rfl⟩
                      · have HE := Lib.hid (show z = uScan true (m.drop (i + 1)) 3 by rw [HR.out, uScan_oth hcond h95, if_neg hs2])
                        have t95 : (t == 95) = false := by rw [HT.out]; exact stC_ne95 hs2 hs3
                        clear HR HT hs2 h95 hcond
                        go_wp2_with (go_at_call 97; refine LC.out.mono ?_; rintro e w1 ⟨rfl, rfl⟩)
                        all_goals first | (exfalso; omega) | skip
                        all_goals
                          go_round
                          case rel => exact ⟨i + 1, 3, _, rfl, by go_num, by omega, by omega, rfl, (by first | exact HE | (rw [hx]; exact HE))⟩
                          case measure => simp [intOf]; omega
            · obtain rfl : i = k := by omega
              have hend := HR0.out
              rw [List.drop_of_length_le (by rw [← HK.out]; exact Nat.le_refl _)] at hend
              have HE := Lib.hid (show z = (t != 95) by rw [hend, HT.out]; exact (stC_end hs3).symm)
              clear hend HR0 HT HZ
              go_wp2_with fail
              all_goals first | (exfalso; omega) | skip
              go_ret
              exact ⟨by rw [HE.out]; rfl, rfl⟩
end Go.Proofs.YthbnglkpkgpojaaDoor
