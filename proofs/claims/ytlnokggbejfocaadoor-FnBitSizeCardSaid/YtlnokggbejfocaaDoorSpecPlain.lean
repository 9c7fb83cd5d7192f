/-
  Contract: spec.Plain is digits without underscores, and whether each of these stands where it may.
-/
import Derived.Test.YtlnokggbejfocaaDoorPlainAgree
import Derived.Test.YtlnokggbejfocaaDoorByteInfo
import Derived.Test.YtlnokggbejfocaaDoorRowWords
import Derived.Test.YtlnokggbejfocaaDoorStrWords
import Derived.WalkKit
import Derived.BigGuardPart
import Derived.Outline
namespace Go.Proofs.YtlnokggbejfocaaDoor
open Go.RowKit
set_option maxRecDepth 100000
set_option linter.unusedVariables false
set_option linter.unusedSimpArgs false
theorem noU_snoc (l : List UInt8) (c : UInt8) : noU (l ++ [c]) = if c = 95 then noU l else noU l ++ [c] := by
  by_cases h : c = 95 <;> simp [noU, List.filter_append, h]
theorem take_snoc' {l : List UInt8} {i : Nat} {c : UInt8} (h : l[i]? = some c) : l.take (i + 1) = l.take i ++ [c] := by
  rw [List.take_add_one, h]; rfl
theorem right_keep {bf : Bool} {l : List UInt8} {i : Nat} {c : UInt8} {r z : Bool} (hc : l[i]? = some c) (h95 : ¬ c = 95) (h : z = (r && rightB (decide (0 < i) || bf) (l.drop i))) : z = (r && rightB (decide (0 < i + 1) || bf) (l.drop (i + 1))) := by
  have hi : i < l.length := (List.getElem?_eq_some_iff.1 hc).1
  have e : l.drop i = c :: l.drop (i + 1) := by
    rw [List.drop_eq_getElem_cons hi]; rw [List.getElem?_eq_getElem hi] at hc; rw [Option.some.inj hc]
  rw [h, e, rightB, if_neg h95]; simp
theorem right_under {bf : Bool} {l : List UInt8} {i : Nat} {r z : Bool} (hc : l[i]? = some 95) (h : z = (r && rightB (decide (0 < i) || bf) (l.drop i))) : z = ((r && nextOK (l.drop (i + 1)) && (decide (0 < i) || bf)) && rightB (decide (0 < i + 1) || bf) (l.drop (i + 1))) := by
  have hi : i < l.length := (List.getElem?_eq_some_iff.1 hc).1
  have e : l.drop i = 95 :: l.drop (i + 1) := by
    rw [List.drop_eq_getElem_cons hi]; rw [List.getElem?_eq_getElem hi] at hc; rw [Option.some.inj hc]
  rw [h, e, rightB, if_pos rfl]; simp [Bool.and_assoc]
theorem nextOK_none {l : List UInt8} {i : Nat} (h : l.length ≤ i) : nextOK (l.drop i) = false := by rw [List.drop_of_length_le h]; rfl
theorem nextOK_some {l : List UInt8} {i : Nat} {c : UInt8} (h : l[i]? = some c) : nextOK (l.drop i) = (c != 95) := by
  have hi : i < l.length := (List.getElem?_eq_some_iff.1 h).1
  rw [List.drop_eq_getElem_cons hi]; rw [List.getElem?_eq_getElem hi] at h; rw [Option.some.inj h]; rfl
theorem bne95 (c : UInt8) : ((c.toNat : Int) != 95) = (c != 95) := by
  rw [Bool.eq_iff_iff, bne_iff_ne, bne_iff_ne]
  constructor
  · intro h e; apply h; rw [e]; rfl
  · intro h e; apply h; rw [← UInt8.toNat_inj]; show c.toNat = 95; omega
theorem noU_len (l : List UInt8) : (noU l).length ≤ l.length := List.length_filter_le _ _
set_option maxHeartbeats 4000000 in
theorem plain_any (l : List UInt8) (bf : Bool) (w : World) (hl : l.length ≤ 140737488351232) : Calls Tryd.prog 39 #[.string (str l), .bool bf] w fun e w' => e = .returned (.tuple #[.string (str (noU l)), .bool (rightB bf l)]) ∧ Below w.heap.size w w' := by
  obtain ⟨i0, hi, hz0, hz1, hz2⟩ := info_parts byte_info
  have HS := Lib.hid (own_start w 5)
  obtain ⟨z, hz⟩ : ∃ z, z = rightB bf l := ⟨_, rfl⟩
  rw [← hz]
  have HZ := Lib.hid (show z = (true && rightB (decide (0 < 0) || bf) (l.drop 0)) by rw [hz]; simp)
  obtain ⟨k, hk⟩ : ∃ k, k = l.length := ⟨_, rfl⟩
  have eL : (str l).size = k := by rw [size_str, hk]
  have HK := Lib.hid hk
  rw [← hk] at hl
  clear hk hz
  go_enter Tryd.func39, Tryd.ntmps39
  go_wp2
  go_loopw [6, 7, 8] (fun vo vr vi wr => ∃ (i : Nat) (r : Bool), vi = .int .i64 i ∧ vr = .bool r ∧ i ≤ k ∧ Hid (Own 5 w.heap.size vo (bcells (noU (l.take i))) w wr) ∧ Hid (z = (r && rightB (decide (0 < i) || bf) (l.drop i)))) (fun _ _ vi _ => k - (intOf vi).toNat)
  case atStart => exact ⟨0, true, rfl, rfl, by omega, HS.out, HZ.out⟩
  case round =>
    obtain ⟨i, r, rfl, rfl, hik, ho, hr⟩ := hrel
    by_cases hlt : i < k
    · obtain ⟨c, hc⟩ : ∃ c, l[i]? = some c := ⟨l[i]'(by rw [← HK.out]; exact hlt), List.getElem?_eq_getElem (by rw [← HK.out]; exact hlt)⟩
      have hidx := fun wx => idx_str (P := Tryd.prog) 9 Tryd.underlying9 .i64 hc wx
      have hst := noU_snoc (l.take i) c
      rw [← take_snoc' hc] at hst
      have hxl : (bcells (noU (l.take i))).length ≤ 140737488351232 := by
        have h1 := noU_len (l.take i)
        have h2 : (l.take i).length ≤ l.length := by simp; omega
        rw [bcells_length]; have := HK.out; omega
      obtain ⟨X, hX⟩ : ∃ X, X = bcells (noU (l.take i)) := ⟨_, rfl⟩
      rw [← hX] at ho hxl
      obtain ⟨A, cp, hv, _, _, _⟩ := ho.out.form
      by_cases h95 : c = 95
      · rw [if_pos h95] at hst
        have HO := Lib.hid (show bcells (noU (l.take (i + 1))) = X by rw [hst, hX])
        subst h95
        have hu := right_under hc hr.out
        have q0 : ((95 : UInt8).toNat : Int) = 95 := rfl
        rw [q0] at hidx
        clear hX hst hc hr q0 hv
        cases r
        · skip
          have HU := Lib.hid (show z = (false && rightB (decide (0 < i + 1) || bf) (l.drop (i + 1))) by rw [hu]; simp)
          clear hu
          go_wp2_with fail
          all_goals first | (exfalso; omega) | skip
          all_goals
            go_roundw
            case rel => exact ⟨i + 1, false, by go_num, rfl, by omega, by rw [HO.out]; exact ho, HU.out⟩
            case measure => simp [intOf]; omega
        · by_cases hn : i + 1 < k
          · obtain ⟨d, hd⟩ : ∃ d, l[i + 1]? = some d := ⟨l[i + 1]'(by rw [← HK.out]; exact hn), List.getElem?_eq_getElem (by rw [← HK.out]; exact hn)⟩
            have hidx2 := fun wx => idx_str (P := Tryd.prog) 9 Tryd.underlying9 .i64 hd wx
            rw [show ((i + 1 : Nat) : Int) = (i : Int) + 1 by omega] at hidx2
            have hb := bne95 d
            rw [nextOK_some hd] at hu
            obtain ⟨y, hy⟩ : ∃ y : Int, y = (d.toNat : Int) := ⟨_, rfl⟩
            rw [← hy] at hidx2 hb
            rw [← hb] at hu
            clear hb hy hd
            cases hy95 : (y != 95)
            · rw [hy95] at hu
              have HU := Lib.hid (show z = (false && rightB (decide (0 < i + 1) || bf) (l.drop (i + 1))) by rw [hu]; simp)
              clear hu
              go_wp2_with fail
              all_goals first | (exfalso; omega) | skip
              all_goals
                go_roundw
                case rel => exact ⟨i + 1, false, by go_num, rfl, by omega, by rw [HO.out]; exact ho, HU.out⟩
                case measure => simp [intOf]; omega
            · rw [hy95] at hu
              by_cases hi0 : 0 < i
              · rw [show decide (0 < i) = true by simpa using hi0] at hu
                have hi0I : (0 : Int) < (i : Int) := by omega
                have HU := Lib.hid (show z = (true && rightB (decide (0 < i + 1) || bf) (l.drop (i + 1))) by rw [hu]; simp)
                clear hu
                go_wp2_with fail
                all_goals first | (exfalso; omega) | skip
                all_goals
                  go_roundw
                  case rel => exact ⟨i + 1, true, by go_num, rfl, by omega, by rw [HO.out]; exact ho, HU.out⟩
                  case measure => simp [intOf]; omega
              · rw [show decide (0 < i) = false by simpa using hi0] at hu
                have hi0I : ¬ (0 : Int) < (i : Int) := by omega
                cases bf
                · skip
                  have HU := Lib.hid (show z = (false && rightB (decide (0 < i + 1) || false) (l.drop (i + 1))) by rw [hu]; simp)
                  clear hu
                  go_wp2_with fail
                  all_goals first | (exfalso; omega) | skip
                  all_goals
                    go_roundw
                    case rel => exact ⟨i + 1, false, by go_num, rfl, by omega, by rw [HO.out]; exact ho, HU.out⟩
                    case measure => simp [intOf]; omega
                · skip
                  have HU := Lib.hid (show z = (true && rightB (decide (0 < i + 1) || true) (l.drop (i + 1))) by rw [hu]; simp)
                  clear hu
                  go_wp2_with fail
                  all_goals first | (exfalso; omega) | skip
                  all_goals
                    go_roundw
                    case rel => exact ⟨i + 1, true, by go_num, rfl, by omega, by rw [HO.out]; exact ho, HU.out⟩
                    case measure => simp [intOf]; omega
          · rw [nextOK_none (by rw [← HK.out]; omega)] at hu
            have HU := Lib.hid (show z = (false && rightB (decide (0 < i + 1) || bf) (l.drop (i + 1))) by rw [hu]; simp)
            clear hu
            go_wp2_with fail
            all_goals first | (exfalso; omega) | skip
            all_goals
              go_roundw
              case rel => exact ⟨i + 1, false, by go_num, rfl, by omega, by rw [HO.out]; exact ho, HU.out⟩
              case measure => simp [intOf]; omega
      · rw [if_neg h95] at hst
        have HO := Lib.hid (show bcells (noU (l.take (i + 1))) = X ++ [.int .u8 (c.toNat : Int)] by rw [hst, hX, bcells_append]; rfl)
        have HU := Lib.hid (right_keep hc h95 hr.out)
        obtain ⟨y, hy⟩ : ∃ y : Int, y = (c.toNat : Int) := ⟨_, rfl⟩
        have q1 : (y != 95) = true := by rw [hy, bne95]; simpa using h95
        rw [← hy] at hidx HO
        have ho' := ho.out
        clear hX hst hc hr hy h95
        go_wp2_with (at_builtin; skip; refine wpList_own_push rfl _ _ 38 rfl w.heap.size 5 i0 _ 1 Tryd.underlying38 hi hz0 hz1 hz2 ?_ _ X rfl w _ _ ?_ ?_ ?_ ?_ ?_ ?_)
        all_goals first | exact ho' | rfl | omega | skip
        intro v2 w2 ho2
        go_wp2
        go_roundw
        case rel => exact ⟨i + 1, r, by go_num, rfl, by omega, by rw [HO.out]; exact ho2, HU.out⟩
        case measure => simp [intOf]; omega
    · obtain rfl : i = k := by omega
      have hfin := hr.out
      rw [List.drop_of_length_le (by rw [← HK.out]; exact Nat.le_refl _)] at hfin
      have HF := Lib.hid (show z = r by rw [hfin]; simp [rightB])
      have hall : l.take i = l := List.take_of_length_le (by rw [← HK.out]; exact Nat.le_refl _)
      rw [hall] at ho
      obtain ⟨A, cp, hv, _, _, hrd⟩ := ho.out.form
      rw [bcells_length] at hv hrd
      have hcv := run_convert_reads (P := Tryd.prog) wr 38 5 9 Tryd.underlying38 Tryd.underlying5 Tryd.underlying9 cp hrd
      have hbel := Lib.hid ho.out.isBelow
      obtain ⟨M, hM⟩ : ∃ M, M = noU l := ⟨_, rfl⟩
      rw [← hM] at hcv hv
      obtain ⟨ml, hml⟩ : ∃ ml, ml = M.length := ⟨_, rfl⟩
      rw [← hml] at hcv hv
      have HM := Lib.hid hM
      subst hv
      clear hfin hr hall hrd hM hml ho
      go_wp2_with fail
      all_goals first | (exfalso; omega) | skip
      go_ret2
      exact ⟨by rw [← HM.out, HF.out]; rfl, hbel.out⟩
end Go.Proofs.YtlnokggbejfocaaDoor
