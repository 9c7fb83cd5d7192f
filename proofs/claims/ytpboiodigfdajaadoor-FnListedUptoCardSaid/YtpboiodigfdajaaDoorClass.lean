/-
  Contracts: spec.IsCodePoint and spec.ClassOf as plain functions of a number.
-/
import Derived.Test.YtpboiodigfdajaaDoorRows
import Derived.Test.YtpboiodigfdajaaDoorPlainClass
import Derived.Test.YtpboiodigfdajaaDoorCodePoint
import Derived.WalkKit
import Derived.WalkSpells
import Derived.Lib.Hide
import Derived.BigGuardPart
import Derived.BigCall
import Derived.Deep.DeepCutAuto
namespace Go.Proofs.YtpboiodigfdajaaDoor
open Go.RowKit
theorem bt {p : Prop} [Decidable p] (h : p) : Value.bool true = .bool (decide p) := by simp [h]
theorem bf {p : Prop} [Decidable p] (h : ¬ p) : Value.bool false = .bool (decide p) := by simp [h]
theorem ret3 {a b : Int} (h : b = a) : Ending.returned (.int .i64 a) = .returned (.int .i64 b) := by rw [h]
set_option maxRecDepth 1000000 in
set_option maxHeartbeats 40000000 in
theorem classOf_walk (r q : Int) (w : World) (hq0 : bits .and .i32 r 65534 = q) : Calls Tryd.prog 47 #[.int .i32 r] w fun e w' => e = .returned (.int .i64 (classQ r q)) ∧ w = w' := by
  have HQ := Lib.hid hq0; clear hq0
  go_enter Tryd.func47, Tryd.ntmps47
  by_cases h0 : 0 ≤ r ∧ r ≤ 1114111 ∧ (r < 55296 ∨ 57343 < r)
  case neg =>
    have hc : isCP r = false := by simpa [isCP] using h0
    go_wp2_with (go_at_call 49; refine (isCodePoint_any _ _).mono ?_; rintro e w' ⟨rfl, rfl⟩)
    go_ret; exact ⟨ret3 (by unfold classQ; repeat (first | rw [if_pos (by omega)] | rw [if_neg (by omega)])), rfl⟩
  have hc : isCP r = true := by simpa [isCP] using h0
  go_upto_region 2 with (go_at_call 49; refine (isCodePoint_any _ _).mono ?_; rintro e w' ⟨rfl, rfl⟩)
  clear hc
  by_cases h1 : r < 32
  · as_aux_lemma =>
      go_wp2; go_ret; exact ⟨ret3 (by unfold classQ; repeat (first | rw [if_pos (by omega)] | rw [if_neg (by omega)])), rfl⟩
  go_upto_region 3 with fail
  go_cut [3] (fun s wx => s = .bool (decide (127 ≤ r ∧ r < 160)) ∧ w = wx)
  case first => as_aux_lemma =>
    by_cases hA : 127 ≤ r
    · by_cases hB : r < 160
      all_goals (go_wp2_with fail; go_meet; first | exact ⟨bt (by omega), rfl⟩ | exact ⟨bf (by omega), rfl⟩)
    · have hA' : decide (127 ≤ r) = false := by simpa using hA
      go_wp2_with fail; go_meet; first | exact ⟨bt (by omega), rfl⟩ | exact ⟨bf (by omega), rfl⟩
  case rest =>
   obtain ⟨rfl, rfl⟩ := hcut
   by_cases h2 : 127 ≤ r ∧ r < 160
   · as_aux_lemma =>
       simp only [decide_eq_true h2]; go_wp2; go_ret; exact ⟨ret3 (by unfold classQ; repeat (first | rw [if_pos (by omega)] | rw [if_neg (by omega)])), rfl⟩
   simp only [decide_eq_false h2]
   by_cases h3 : r = 173
   · as_aux_lemma =>
       have hb : (r == 173) = true := by simpa using h3
       go_wp2; go_ret; exact ⟨ret3 (by unfold classQ; repeat (first | rw [if_pos (by omega)] | rw [if_neg (by omega)])), rfl⟩
   have hb3 : (r == 173) = false := by simpa using h3
   by_cases h4 : r = 160
   · as_aux_lemma =>
       have hb : (r == 160) = true := by simpa using h4
       go_wp2; go_ret; exact ⟨ret3 (by unfold classQ; repeat (first | rw [if_pos (by omega)] | rw [if_neg (by omega)])), rfl⟩
   have hb4 : (r == 160) = false := by simpa using h4
   by_cases h5 : r = 5760
   · as_aux_lemma =>
       have hb : (r == 5760) = true := by simpa using h5
       go_wp2; go_ret; exact ⟨ret3 (by unfold classQ; repeat (first | rw [if_pos (by omega)] | rw [if_neg (by omega)])), rfl⟩
   have hb5 : (r == 5760) = false := by simpa using h5
   go_upto_region 8 with fail
   go_cut [17] (fun s wx => s = .bool (decide (8192 ≤ r ∧ r ≤ 8202)) ∧ w = wx)
   case first => as_aux_lemma =>
     by_cases hA : 8192 ≤ r
     · by_cases hB : r ≤ 8202
       all_goals (go_wp2_with fail; go_meet; first | exact ⟨bt (by omega), rfl⟩ | exact ⟨bf (by omega), rfl⟩)
     · have hA' : decide (8192 ≤ r) = false := by simpa using hA
       go_wp2_with fail; go_meet; first | exact ⟨bt (by omega), rfl⟩ | exact ⟨bf (by omega), rfl⟩
   case rest =>
    obtain ⟨rfl, rfl⟩ := hcut
    by_cases h6 : 8192 ≤ r ∧ r ≤ 8202
    · as_aux_lemma =>
        simp only [decide_eq_true h6]; go_wp2; go_ret; exact ⟨ret3 (by unfold classQ; repeat (first | rw [if_pos (by omega)] | rw [if_neg (by omega)])), rfl⟩
    simp only [decide_eq_false h6]
    by_cases h7 : r = 8239
    · as_aux_lemma =>
        have hb : (r == 8239) = true := by simpa using h7
        go_wp2; go_ret; exact ⟨ret3 (by unfold classQ; repeat (first | rw [if_pos (by omega)] | rw [if_neg (by omega)])), rfl⟩
    have hb7 : (r == 8239) = false := by simpa using h7
    by_cases h8 : r = 8287
    · as_aux_lemma =>
        have hb : (r == 8287) = true := by simpa using h8
        go_wp2; go_ret; exact ⟨ret3 (by unfold classQ; repeat (first | rw [if_pos (by omega)] | rw [if_neg (by omega)])), rfl⟩
    have hb8 : (r == 8287) = false := by simpa using h8
    by_cases h9 : r = 12288
    · as_aux_lemma =>
        have hb : (r == 12288) = true := by simpa using h9
        go_wp2; go_ret; exact ⟨ret3 (by unfold classQ; repeat (first | rw [if_pos (by omega)] | rw [if_neg (by omega)])), rfl⟩
    have hb9 : (r == 12288) = false := by simpa using h9
    by_cases h10 : r < 768
    · as_aux_lemma =>
        go_wp2; go_ret; exact ⟨ret3 (by unfold classQ; repeat (first | rw [if_pos (by omega)] | rw [if_neg (by omega)])), rfl⟩
    by_cases h11 : r < 880
    · as_aux_lemma =>
        go_wp2; go_ret; exact ⟨ret3 (by unfold classQ; repeat (first | rw [if_pos (by omega)] | rw [if_neg (by omega)])), rfl⟩
    go_upto_region 17 with fail
    go_cut [40] (fun s wx => s = .bool (decide (8203 ≤ r ∧ r ≤ 8207)) ∧ w = wx)
    case first => as_aux_lemma =>
      by_cases hA : 8203 ≤ r
      · by_cases hB : r ≤ 8207
        all_goals (go_wp2_with fail; go_meet; first | exact ⟨bt (by omega), rfl⟩ | exact ⟨bf (by omega), rfl⟩)
      · have hA' : decide (8203 ≤ r) = false := by simpa using hA
        go_wp2_with fail; go_meet; first | exact ⟨bt (by omega), rfl⟩ | exact ⟨bf (by omega), rfl⟩
    case rest =>
     obtain ⟨rfl, rfl⟩ := hcut
     by_cases h12 : 8203 ≤ r ∧ r ≤ 8207
     · as_aux_lemma =>
         simp only [decide_eq_true h12]; go_wp2; go_ret; exact ⟨ret3 (by unfold classQ; repeat (first | rw [if_pos (by omega)] | rw [if_neg (by omega)])), rfl⟩
     simp only [decide_eq_false h12]
     go_upto_region 18 with fail
     go_cut [40] (fun s wx => s = .bool (decide (8232 ≤ r ∧ r ≤ 8238)) ∧ w = wx)
     case first => as_aux_lemma =>
       by_cases hA : 8232 ≤ r
       · by_cases hB : r ≤ 8238
         all_goals (go_wp2_with fail; go_meet; first | exact ⟨bt (by omega), rfl⟩ | exact ⟨bf (by omega), rfl⟩)
       · have hA' : decide (8232 ≤ r) = false := by simpa using hA
         go_wp2_with fail; go_meet; first | exact ⟨bt (by omega), rfl⟩ | exact ⟨bf (by omega), rfl⟩
     case rest =>
      obtain ⟨rfl, rfl⟩ := hcut
      by_cases h13 : 8232 ≤ r ∧ r ≤ 8238
      · as_aux_lemma =>
          simp only [decide_eq_true h13]; go_wp2; go_ret; exact ⟨ret3 (by unfold classQ; repeat (first | rw [if_pos (by omega)] | rw [if_neg (by omega)])), rfl⟩
      simp only [decide_eq_false h13]
      go_upto_region 19 with fail
      go_cut [40] (fun s wx => s = .bool (decide (8288 ≤ r ∧ r ≤ 8303)) ∧ w = wx)
      case first => as_aux_lemma =>
        by_cases hA : 8288 ≤ r
        · by_cases hB : r ≤ 8303
          all_goals (go_wp2_with fail; go_meet; first | exact ⟨bt (by omega), rfl⟩ | exact ⟨bf (by omega), rfl⟩)
        · have hA' : decide (8288 ≤ r) = false := by simpa using hA
          go_wp2_with fail; go_meet; first | exact ⟨bt (by omega), rfl⟩ | exact ⟨bf (by omega), rfl⟩
      case rest =>
       obtain ⟨rfl, rfl⟩ := hcut
       by_cases h14 : 8288 ≤ r ∧ r ≤ 8303
       · as_aux_lemma =>
           simp only [decide_eq_true h14]; go_wp2; go_ret; exact ⟨ret3 (by unfold classQ; repeat (first | rw [if_pos (by omega)] | rw [if_neg (by omega)])), rfl⟩
       simp only [decide_eq_false h14]
       by_cases h15 : r = 65279
       · as_aux_lemma =>
           have hb : (r == 65279) = true := by simpa using h15
           go_wp2; go_ret; exact ⟨ret3 (by unfold classQ; repeat (first | rw [if_pos (by omega)] | rw [if_neg (by omega)])), rfl⟩
       have hb15 : (r == 65279) = false := by simpa using h15
       go_upto_region 22 with fail
       go_cut [61] (fun s wx => s = .bool (decide (57344 ≤ r ∧ r ≤ 63743)) ∧ w = wx)
       case first => as_aux_lemma =>
         by_cases hA : 57344 ≤ r
         · by_cases hB : r ≤ 63743
           all_goals (go_wp2_with fail; go_meet; first | exact ⟨bt (by omega), rfl⟩ | exact ⟨bf (by omega), rfl⟩)
         · have hA' : decide (57344 ≤ r) = false := by simpa using hA
           go_wp2_with fail; go_meet; first | exact ⟨bt (by omega), rfl⟩ | exact ⟨bf (by omega), rfl⟩
       case rest =>
        obtain ⟨rfl, rfl⟩ := hcut
        by_cases h16 : 57344 ≤ r ∧ r ≤ 63743
        · as_aux_lemma =>
            simp only [decide_eq_true h16]; go_wp2; go_ret; exact ⟨ret3 (by unfold classQ; repeat (first | rw [if_pos (by omega)] | rw [if_neg (by omega)])), rfl⟩
        simp only [decide_eq_false h16]
        by_cases h17 : 983040 ≤ r
        · as_aux_lemma =>
            go_wp2; go_ret; exact ⟨ret3 (by unfold classQ; repeat (first | rw [if_pos (by omega)] | rw [if_neg (by omega)])), rfl⟩
        go_upto_region 24 with fail
        go_cut [61] (fun s wx => s = .bool (decide (64976 ≤ r ∧ r ≤ 65007)) ∧ w = wx)
        case first => as_aux_lemma =>
          by_cases hA : 64976 ≤ r
          · by_cases hB : r ≤ 65007
            all_goals (go_wp2_with fail; go_meet; first | exact ⟨bt (by omega), rfl⟩ | exact ⟨bf (by omega), rfl⟩)
          · have hA' : decide (64976 ≤ r) = false := by simpa using hA
            go_wp2_with fail; go_meet; first | exact ⟨bt (by omega), rfl⟩ | exact ⟨bf (by omega), rfl⟩
        case rest =>
         obtain ⟨rfl, rfl⟩ := hcut
         by_cases h18 : 64976 ≤ r ∧ r ≤ 65007
         · as_aux_lemma =>
             simp only [decide_eq_true h18]; go_wp2; go_ret; exact ⟨ret3 (by unfold classQ; repeat (first | rw [if_pos (by omega)] | rw [if_neg (by omega)])), rfl⟩
         simp only [decide_eq_false h18]
         by_cases h19 : q = 65534
         · as_aux_lemma =>
             have hq : (bits .and .i32 r 65534 == 65534) = true := by rw [HQ.out, h19]; rfl
             go_wp2; go_ret; exact ⟨ret3 (by unfold classQ; repeat (first | rw [if_pos (by omega)] | rw [if_neg (by omega)])), rfl⟩
         have hq : (bits .and .i32 r 65534 == 65534) = false := by rw [HQ.out]; simpa using h19
         go_upto_region 26 with fail
         go_cut [61] (fun s wx => s = .bool (decide (917504 ≤ r ∧ r ≤ 917631)) ∧ w = wx)
         case first => as_aux_lemma =>
           by_cases hA : 917504 ≤ r
           · by_cases hB : r ≤ 917631
             all_goals (go_wp2_with fail; go_meet; first | exact ⟨bt (by omega), rfl⟩ | exact ⟨bf (by omega), rfl⟩)
           · have hA' : decide (917504 ≤ r) = false := by simpa using hA
             go_wp2_with fail; go_meet; first | exact ⟨bt (by omega), rfl⟩ | exact ⟨bf (by omega), rfl⟩
         case rest =>
          obtain ⟨rfl, rfl⟩ := hcut
          by_cases h20 : 917504 ≤ r ∧ r ≤ 917631
          · as_aux_lemma =>
              simp only [decide_eq_true h20]; go_wp2; go_ret; exact ⟨ret3 (by unfold classQ; repeat (first | rw [if_pos (by omega)] | rw [if_neg (by omega)])), rfl⟩
          simp only [decide_eq_false h20]
          go_upto_region 28 with fail
          go_cut [85] (fun s wx => s = .bool (decide (19968 ≤ r ∧ r ≤ 40869)) ∧ w = wx)
          case first => as_aux_lemma =>
            by_cases hA : 19968 ≤ r
            · by_cases hB : r ≤ 40869
              all_goals (go_wp2_with fail; go_meet; first | exact ⟨bt (by omega), rfl⟩ | exact ⟨bf (by omega), rfl⟩)
            · have hA' : decide (19968 ≤ r) = false := by simpa using hA
              go_wp2_with fail; go_meet; first | exact ⟨bt (by omega), rfl⟩ | exact ⟨bf (by omega), rfl⟩
          case rest =>
           obtain ⟨rfl, rfl⟩ := hcut
           by_cases h21 : 19968 ≤ r ∧ r ≤ 40869
           · as_aux_lemma =>
               simp only [decide_eq_true h21]; go_wp2; go_ret; exact ⟨ret3 (by unfold classQ; repeat (first | rw [if_pos (by omega)] | rw [if_neg (by omega)])), rfl⟩
           simp only [decide_eq_false h21]
           go_upto_region 29 with fail
           go_cut [85] (fun s wx => s = .bool (decide (44032 ≤ r ∧ r ≤ 55203)) ∧ w = wx)
           case first => as_aux_lemma =>
             by_cases hA : 44032 ≤ r
             · by_cases hB : r ≤ 55203
               all_goals (go_wp2_with fail; go_meet; first | exact ⟨bt (by omega), rfl⟩ | exact ⟨bf (by omega), rfl⟩)
             · have hA' : decide (44032 ≤ r) = false := by simpa using hA
               go_wp2_with fail; go_meet; first | exact ⟨bt (by omega), rfl⟩ | exact ⟨bf (by omega), rfl⟩
           case rest =>
            obtain ⟨rfl, rfl⟩ := hcut
            by_cases h22 : 44032 ≤ r ∧ r ≤ 55203
            · as_aux_lemma =>
                simp only [decide_eq_true h22]; go_wp2; go_ret; exact ⟨ret3 (by unfold classQ; repeat (first | rw [if_pos (by omega)] | rw [if_neg (by omega)])), rfl⟩
            simp only [decide_eq_false h22]
            by_cases h23 : r = 65533
            · as_aux_lemma =>
                have hb : (r == 65533) = true := by simpa using h23
                go_wp2; go_ret; exact ⟨ret3 (by unfold classQ; repeat (first | rw [if_pos (by omega)] | rw [if_neg (by omega)])), rfl⟩
            have hb23 : (r == 65533) = false := by simpa using h23
            go_upto_region 32 with fail
            go_cut [100] (fun s wx => s = .bool (decide (945 ≤ r ∧ r ≤ 969)) ∧ w = wx)
            case first => as_aux_lemma =>
              by_cases hA : 945 ≤ r
              · by_cases hB : r ≤ 969
                all_goals (go_wp2_with fail; go_meet; first | exact ⟨bt (by omega), rfl⟩ | exact ⟨bf (by omega), rfl⟩)
              · have hA' : decide (945 ≤ r) = false := by simpa using hA
                go_wp2_with fail; go_meet; first | exact ⟨bt (by omega), rfl⟩ | exact ⟨bf (by omega), rfl⟩
            case rest =>
             obtain ⟨rfl, rfl⟩ := hcut
             by_cases h24 : 945 ≤ r ∧ r ≤ 969
             · as_aux_lemma =>
                 simp only [decide_eq_true h24]; go_wp2; go_ret; exact ⟨ret3 (by unfold classQ; repeat (first | rw [if_pos (by omega)] | rw [if_neg (by omega)])), rfl⟩
             simp only [decide_eq_false h24]
             go_upto_region 33 with fail
             go_cut [100] (fun s wx => s = .bool (decide (1040 ≤ r ∧ r ≤ 1103)) ∧ w = wx)
             case first => as_aux_lemma =>
               by_cases hA : 1040 ≤ r
               · by_cases hB : r ≤ 1103
                 all_goals (go_wp2_with fail; go_meet; first | exact ⟨bt (by omega), rfl⟩ | exact ⟨bf (by omega), rfl⟩)
               · have hA' : decide (1040 ≤ r) = false := by simpa using hA
                 go_wp2_with fail; go_meet; first | exact ⟨bt (by omega), rfl⟩ | exact ⟨bf (by omega), rfl⟩
             case rest =>
              obtain ⟨rfl, rfl⟩ := hcut
              by_cases h25 : 1040 ≤ r ∧ r ≤ 1103
              · as_aux_lemma =>
                  simp only [decide_eq_true h25]; go_wp2; go_ret; exact ⟨ret3 (by unfold classQ; repeat (first | rw [if_pos (by omega)] | rw [if_neg (by omega)])), rfl⟩
              simp only [decide_eq_false h25]
              go_upto_region 34 with fail
              go_cut [100] (fun s wx => s = .bool (decide (1488 ≤ r ∧ r ≤ 1514)) ∧ w = wx)
              case first => as_aux_lemma =>
                by_cases hA : 1488 ≤ r
                · by_cases hB : r ≤ 1514
                  all_goals (go_wp2_with fail; go_meet; first | exact ⟨bt (by omega), rfl⟩ | exact ⟨bf (by omega), rfl⟩)
                · have hA' : decide (1488 ≤ r) = false := by simpa using hA
                  go_wp2_with fail; go_meet; first | exact ⟨bt (by omega), rfl⟩ | exact ⟨bf (by omega), rfl⟩
              case rest =>
               obtain ⟨rfl, rfl⟩ := hcut
               by_cases h26 : 1488 ≤ r ∧ r ≤ 1514
               · as_aux_lemma =>
                   simp only [decide_eq_true h26]; go_wp2; go_ret; exact ⟨ret3 (by unfold classQ; repeat (first | rw [if_pos (by omega)] | rw [if_neg (by omega)])), rfl⟩
               simp only [decide_eq_false h26]
               go_upto_region 35 with fail
               go_cut [100] (fun s wx => s = .bool (decide (12353 ≤ r ∧ r ≤ 12438)) ∧ w = wx)
               case first => as_aux_lemma =>
                 by_cases hA : 12353 ≤ r
                 · by_cases hB : r ≤ 12438
                   all_goals (go_wp2_with fail; go_meet; first | exact ⟨bt (by omega), rfl⟩ | exact ⟨bf (by omega), rfl⟩)
                 · have hA' : decide (12353 ≤ r) = false := by simpa using hA
                   go_wp2_with fail; go_meet; first | exact ⟨bt (by omega), rfl⟩ | exact ⟨bf (by omega), rfl⟩
               case rest =>
                obtain ⟨rfl, rfl⟩ := hcut
                by_cases h27 : 12353 ≤ r ∧ r ≤ 12438
                · as_aux_lemma =>
                    simp only [decide_eq_true h27]; go_wp2; go_ret; exact ⟨ret3 (by unfold classQ; repeat (first | rw [if_pos (by omega)] | rw [if_neg (by omega)])), rfl⟩
                simp only [decide_eq_false h27]
                go_upto_region 36 with fail
                go_cut [100] (fun s wx => s = .bool (decide (12449 ≤ r ∧ r ≤ 12538)) ∧ w = wx)
                case first => as_aux_lemma =>
                  by_cases hA : 12449 ≤ r
                  · by_cases hB : r ≤ 12538
                    all_goals (go_wp2_with fail; go_meet; first | exact ⟨bt (by omega), rfl⟩ | exact ⟨bf (by omega), rfl⟩)
                  · have hA' : decide (12449 ≤ r) = false := by simpa using hA
                    go_wp2_with fail; go_meet; first | exact ⟨bt (by omega), rfl⟩ | exact ⟨bf (by omega), rfl⟩
                case rest =>
                 obtain ⟨rfl, rfl⟩ := hcut
                 by_cases h28 : 12449 ≤ r ∧ r ≤ 12538
                 · as_aux_lemma =>
                     simp only [decide_eq_true h28]; go_wp2; go_ret; exact ⟨ret3 (by unfold classQ; repeat (first | rw [if_pos (by omega)] | rw [if_neg (by omega)])), rfl⟩
                 simp only [decide_eq_false h28]
                 go_upto_region 38 with fail
                 go_cut [131] (fun s wx => s = .bool (decide (8208 ≤ r ∧ r ≤ 8231)) ∧ w = wx)
                 case first => as_aux_lemma =>
                   by_cases hA : 8208 ≤ r
                   · by_cases hB : r ≤ 8231
                     all_goals (go_wp2_with fail; go_meet; first | exact ⟨bt (by omega), rfl⟩ | exact ⟨bf (by omega), rfl⟩)
                   · have hA' : decide (8208 ≤ r) = false := by simpa using hA
                     go_wp2_with fail; go_meet; first | exact ⟨bt (by omega), rfl⟩ | exact ⟨bf (by omega), rfl⟩
                 case rest =>
                  obtain ⟨rfl, rfl⟩ := hcut
                  by_cases h29 : 8208 ≤ r ∧ r ≤ 8231
                  · as_aux_lemma =>
                      simp only [decide_eq_true h29]; go_wp2; go_ret; exact ⟨ret3 (by unfold classQ; repeat (first | rw [if_pos (by omega)] | rw [if_neg (by omega)])), rfl⟩
                  simp only [decide_eq_false h29]
                  go_upto_region 39 with fail
                  go_cut [131] (fun s wx => s = .bool (decide (8240 ≤ r ∧ r ≤ 8286)) ∧ w = wx)
                  case first => as_aux_lemma =>
                    by_cases hA : 8240 ≤ r
                    · by_cases hB : r ≤ 8286
                      all_goals (go_wp2_with fail; go_meet; first | exact ⟨bt (by omega), rfl⟩ | exact ⟨bf (by omega), rfl⟩)
                    · have hA' : decide (8240 ≤ r) = false := by simpa using hA
                      go_wp2_with fail; go_meet; first | exact ⟨bt (by omega), rfl⟩ | exact ⟨bf (by omega), rfl⟩
                  case rest =>
                   obtain ⟨rfl, rfl⟩ := hcut
                   by_cases h30 : 8240 ≤ r ∧ r ≤ 8286
                   · as_aux_lemma =>
                       simp only [decide_eq_true h30]; go_wp2; go_ret; exact ⟨ret3 (by unfold classQ; repeat (first | rw [if_pos (by omega)] | rw [if_neg (by omega)])), rfl⟩
                   simp only [decide_eq_false h30]
                   go_upto_region 40 with fail
                   go_cut [131] (fun s wx => s = .bool (decide (8592 ≤ r ∧ r ≤ 8977)) ∧ w = wx)
                   case first => as_aux_lemma =>
                     by_cases hA : 8592 ≤ r
                     · by_cases hB : r ≤ 8977
                       all_goals (go_wp2_with fail; go_meet; first | exact ⟨bt (by omega), rfl⟩ | exact ⟨bf (by omega), rfl⟩)
                     · have hA' : decide (8592 ≤ r) = false := by simpa using hA
                       go_wp2_with fail; go_meet; first | exact ⟨bt (by omega), rfl⟩ | exact ⟨bf (by omega), rfl⟩
                   case rest =>
                    obtain ⟨rfl, rfl⟩ := hcut
                    by_cases h31 : 8592 ≤ r ∧ r ≤ 8977
                    · as_aux_lemma =>
                        simp only [decide_eq_true h31]; go_wp2; go_ret; exact ⟨ret3 (by unfold classQ; repeat (first | rw [if_pos (by omega)] | rw [if_neg (by omega)])), rfl⟩
                    simp only [decide_eq_false h31]
                    go_upto_region 41 with fail
                    go_cut [131] (fun s wx => s = .bool (decide (9472 ≤ r ∧ r ≤ 9727)) ∧ w = wx)
                    case first => as_aux_lemma =>
                      by_cases hA : 9472 ≤ r
                      · by_cases hB : r ≤ 9727
                        all_goals (go_wp2_with fail; go_meet; first | exact ⟨bt (by omega), rfl⟩ | exact ⟨bf (by omega), rfl⟩)
                      · have hA' : decide (9472 ≤ r) = false := by simpa using hA
                        go_wp2_with fail; go_meet; first | exact ⟨bt (by omega), rfl⟩ | exact ⟨bf (by omega), rfl⟩
                    case rest =>
                     obtain ⟨rfl, rfl⟩ := hcut
                     by_cases h32 : 9472 ≤ r ∧ r ≤ 9727
                     · as_aux_lemma =>
                         simp only [decide_eq_true h32]; go_wp2; go_ret; exact ⟨ret3 (by unfold classQ; repeat (first | rw [if_pos (by omega)] | rw [if_neg (by omega)])), rfl⟩
                     simp only [decide_eq_false h32]
                     go_upto_region 42 with fail
                     go_cut [131] (fun s wx => s = .bool (decide (10240 ≤ r ∧ r ≤ 10495)) ∧ w = wx)
                     case first => as_aux_lemma =>
                       by_cases hA : 10240 ≤ r
                       · by_cases hB : r ≤ 10495
                         all_goals (go_wp2_with fail; go_meet; first | exact ⟨bt (by omega), rfl⟩ | exact ⟨bf (by omega), rfl⟩)
                       · have hA' : decide (10240 ≤ r) = false := by simpa using hA
                         go_wp2_with fail; go_meet; first | exact ⟨bt (by omega), rfl⟩ | exact ⟨bf (by omega), rfl⟩
                     case rest =>
                      obtain ⟨rfl, rfl⟩ := hcut
                      by_cases h33 : 10240 ≤ r ∧ r ≤ 10495
                      · as_aux_lemma =>
                          simp only [decide_eq_true h33]; go_wp2; go_ret; exact ⟨ret3 (by unfold classQ; repeat (first | rw [if_pos (by omega)] | rw [if_neg (by omega)])), rfl⟩
                      simp only [decide_eq_false h33]
                      go_upto_region 43 with fail
                      go_cut [131] (fun s wx => s = .bool (decide (128512 ≤ r ∧ r ≤ 128591)) ∧ w = wx)
                      case first => as_aux_lemma =>
                        by_cases hA : 128512 ≤ r
                        · by_cases hB : r ≤ 128591
                          all_goals (go_wp2_with fail; go_meet; first | exact ⟨bt (by omega), rfl⟩ | exact ⟨bf (by omega), rfl⟩)
                        · have hA' : decide (128512 ≤ r) = false := by simpa using hA
                          go_wp2_with fail; go_meet; first | exact ⟨bt (by omega), rfl⟩ | exact ⟨bf (by omega), rfl⟩
                      case rest =>
                       obtain ⟨rfl, rfl⟩ := hcut
                       by_cases h34 : 128512 ≤ r ∧ r ≤ 128591
                       · as_aux_lemma =>
                           simp only [decide_eq_true h34]; go_wp2; go_ret; exact ⟨ret3 (by unfold classQ; repeat (first | rw [if_pos (by omega)] | rw [if_neg (by omega)])), rfl⟩
                       simp only [decide_eq_false h34]
                       go_wp2; go_ret; exact ⟨ret3 (by unfold classQ; repeat (first | rw [if_pos (by omega)] | rw [if_neg (by omega)])), rfl⟩
theorem classOf_any (r : Int) (w : World) : Calls Tryd.prog 47 #[.int .i32 r] w fun e w' => e = .returned (.int .i64 (classZ r)) ∧ w = w' := classOf_walk r _ w rfl
end Go.Proofs.YtpboiodigfdajaaDoor
