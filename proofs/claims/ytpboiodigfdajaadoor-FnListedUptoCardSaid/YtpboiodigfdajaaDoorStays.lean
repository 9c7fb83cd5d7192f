/-
  Contracts: spec.Stays at every list. Printed by wip/gen/stays.py.
-/
import Derived.Test.YtpboiodigfdajaaDoorClass
import Derived.Test.YtpboiodigfdajaaDoorPlainQuote
import Derived.Test.YtpboiodigfdajaaDoorPrints
namespace Go.Proofs.YtpboiodigfdajaaDoor
open Go.RowKit
open Go.Lib (isPrintR goPrintTabs)
set_option maxRecDepth 100000
set_option linter.unusedVariables false
set_option linter.unusedSimpArgs false
theorem class_le5 (r : Int) : classZ r = 0 ∨ classZ r = 1 ∨ classZ r = 2 ∨ classZ r = 3 ∨ classZ r = 4 := by
  unfold classZ classQ
  generalize bits .and .i32 r 65534 = q
  (repeat' split) <;> simp
def clsE (r : Int) : Int := if 0 ≤ r then classZ r else 3
def stL (gr asc : Bool) (r : Int) : Bool := (decide (clsE r = 1) || (gr && decide (clsE r = 2))) && (!asc || decide (r < 128))
def okE (r : Int) : Bool := decide (clsE r ≠ 0) && decide (clsE r ≠ 4)
theorem take_all_snoc (f : Int → Bool) (l : List Int) (k : Nat) (h : k < l.length) : (l.take (k + 1)).all f = ((l.take k).all f && f (l[k])) := by
  rw [List.take_succ_eq_append_getElem h, List.all_append]; simp
theorem stL_P (asc : Bool) (r : Int) (h1 : r ≤ 2147483647) (h : okE r = true) : stL false asc r = stP asc r := by
  unfold okE at h
  unfold stL stP
  by_cases h0 : 0 ≤ r
  · have hc : clsE r = classZ r := by simp [clsE, h0]
    rw [hc] at h ⊢
    rcases class_le5 r with e | e | e | e | e
    · simp [e] at h
    · have := class_print r h0 h1 (.inl e); simp [e, h0, this]
    · have := class_not_print r h0 h1 (.inl e); simp [e, h0, this]
    · have := class_not_print r h0 h1 (.inr e); simp [e, h0, this]
    · simp [e] at h
  · have hc : clsE r = 3 := by simp [clsE, h0]
    simp [hc, h0]
theorem stL_G (r : Int) (h1 : r ≤ 2147483647) (h : okE r = true) : stL true false r = stG r := by
  unfold okE at h
  unfold stL stG
  by_cases h0 : 0 ≤ r
  · have hc : clsE r = classZ r := by simp [clsE, h0]
    have hg := inGraphic_eq r h0
    rw [← class_two] at hg
    rw [hc] at h ⊢
    rcases class_le5 r with e | e | e | e | e
    · simp [e] at h
    · have := class_print r h0 h1 (.inl e); simp [e, h0, this]
    · have := class_not_print r h0 h1 (.inl e); rw [e] at hg; simp [e, h0, this, hg]
    · have := class_not_print r h0 h1 (.inr e); rw [e] at hg; simp [e, h0, this]; simpa using hg
    · simp [e] at h
  · have hc : clsE r = 3 := by simp [clsE, h0]
    simp [hc, h0]
set_option maxHeartbeats 2000000 in
theorem stays_false_false (A : Option Addr) (c : Nat) (es : List Int) (w : World) (hr : Reads w w.heap.size 1 A es.length (icells es)) (hn : es.length ≤ 1048576) :
    Calls Tryd.prog 26 #[.slice A es.length c, .bool false, .bool false] w fun e w' => ∃ v, e = .returned (.tuple #[v, .bool (es.all okE)]) ∧ Own 4 w.heap.size v (tcells (es.map (stL false false))) w w' := by
  obtain ⟨i0, hi, hz0, hz1, hz2⟩ := info_parts bool_info
  have hst := own_start w 4
  have HR := Lib.hid hr
  have HS := Lib.hid hst
  clear hr hst
  obtain ⟨n, hnn⟩ : ∃ n, n = es.length := ⟨_, rfl⟩
  rw [← hnn] at hn ⊢
  have HN := Lib.hid hnn
  clear hnn
  go_enter Tryd.func26, Tryd.ntmps26
  go_wp2
  go_loopw [8, 9, 16] (fun vo vl vi wr => ∃ k : Nat, k ≤ n ∧ vi = .int .i64 k ∧ vl = .bool ((es.take k).all okE) ∧ Hid (Own 4 w.heap.size vo (tcells ((es.take k).map (stL false false))) w wr)) (fun _ _ vi _ => n - (RowKit.intOf vi).toNat)
  case atStart => exact ⟨0, Nat.zero_le _, rfl, by simp, by simpa [Hid, tcells] using HS.out⟩
  case round =>
    obtain ⟨k, hk, rfl, rfl, ho⟩ := hrel
    by_cases hlt : k < n
    · obtain ⟨ad, u, hA, _, hu, hc⟩ := (HR.out.below ho.out.isBelow).at_ (k := k) (by have := HN.out; omega)
      have hke : k < es.length := by have := HN.out; omega
      obtain ⟨r, hr⟩ : ∃ r, r = es[k] := ⟨_, rfl⟩
      have hu' : u = .int .i32 r := by
        rw [hr]; simp [icells, List.getElem?_eq_getElem hke] at hu; exact hu.symm
      subst hu' hA
      have cP := Lib.hid (classOf_any r wr)
      have HRr := Lib.hid hr
      clear hr
      have HK := Lib.hid (show ∀ b, stL false false r = b → tcells ((es.take (k + 1)).map (stL false false)) = tcells ((es.take k).map (stL false false)) ++ [.bool b] by
        intro b hb
        rw [take_map_snoc _ _ _ hke, ← HRr.out, hb]; simp [tcells])
      have HO := Lib.hid (show (es.take (k + 1)).all okE = ((es.take k).all okE && okE r) by rw [take_all_snoc _ _ _ hke, ← HRr.out])
      have hlo : ((tcells ((es.take k).map (stL false false))).length + 1) * 1 ≤ 140737488355328 := by rw [tcells_length, List.length_map, List.length_take]; omega
      have ho' := ho.out
      obtain ⟨L, hL⟩ : ∃ L, L = tcells ((es.take k).map (stL false false)) := ⟨_, rfl⟩
      rw [← hL] at HK hlo ho'
      clear hL ho
      obtain ⟨b, hb⟩ : ∃ b, b = (es.take k).all okE := ⟨_, rfl⟩
      rw [← hb] at HO ⊢
      clear hb
      by_cases h1 : 0 ≤ r
      · have hc1 : clsE r = classZ r := by simp [clsE, h1]
        have key := class_le5 r
        obtain ⟨K, hK⟩ : ∃ K, K = classZ r := ⟨_, rfl⟩
        rw [← hK] at cP key hc1
        clear hK
        rcases key with rfl | rfl | rfl | rfl | rfl
        · have HE := Lib.hid (HK.out false (by simp [stL, hc1]))
          have HO2 := Lib.hid (show (es.take (k + 1)).all okE = false by rw [HO.out]; simp [okE, hc1])
          clear hc1
          cases b
          · go_wp2_with (first | (go_at_call 47; refine cP.out.mono ?_; rintro e w1 ⟨rfl, rfl⟩) | (at_builtin; refine wpList_own_push rfl _ _ 26 rfl w.heap.size 4 i0 _ 1 Tryd.underlying26 hi hz0 hz1 hz2 rfl _ L rfl w _ _ rfl (by assumption) rfl hlo (by omega) ?_; intro v' w' ho2))
            go_roundw
            case rel => exact ⟨k + 1, by omega, by go_num, by rw [HO2.out], by rw [HE.out]; exact ho2⟩
            case measure => simp [RowKit.intOf]; omega
          · go_wp2_with (first | (go_at_call 47; refine cP.out.mono ?_; rintro e w1 ⟨rfl, rfl⟩) | (at_builtin; refine wpList_own_push rfl _ _ 26 rfl w.heap.size 4 i0 _ 1 Tryd.underlying26 hi hz0 hz1 hz2 rfl _ L rfl w _ _ rfl (by assumption) rfl hlo (by omega) ?_; intro v' w' ho2))
            go_roundw
            case rel => exact ⟨k + 1, by omega, by go_num, by rw [HO2.out], by rw [HE.out]; exact ho2⟩
            case measure => simp [RowKit.intOf]; omega
        · have HE := Lib.hid (HK.out true (by simp [stL, hc1]))
          have HO2 := Lib.hid (show (es.take (k + 1)).all okE = b by rw [HO.out]; simp [okE, hc1])
          clear hc1
          cases b
          · go_wp2_with (first | (go_at_call 47; refine cP.out.mono ?_; rintro e w1 ⟨rfl, rfl⟩) | (at_builtin; refine wpList_own_push rfl _ _ 26 rfl w.heap.size 4 i0 _ 1 Tryd.underlying26 hi hz0 hz1 hz2 rfl _ L rfl w _ _ rfl (by assumption) rfl hlo (by omega) ?_; intro v' w' ho2))
            go_roundw
            case rel => exact ⟨k + 1, by omega, by go_num, by rw [HO2.out], by rw [HE.out]; exact ho2⟩
            case measure => simp [RowKit.intOf]; omega
          · go_wp2_with (first | (go_at_call 47; refine cP.out.mono ?_; rintro e w1 ⟨rfl, rfl⟩) | (at_builtin; refine wpList_own_push rfl _ _ 26 rfl w.heap.size 4 i0 _ 1 Tryd.underlying26 hi hz0 hz1 hz2 rfl _ L rfl w _ _ rfl (by assumption) rfl hlo (by omega) ?_; intro v' w' ho2))
            go_roundw
            case rel => exact ⟨k + 1, by omega, by go_num, by rw [HO2.out], by rw [HE.out]; exact ho2⟩
            case measure => simp [RowKit.intOf]; omega
        · have HE := Lib.hid (HK.out false (by simp [stL, hc1]))
          have HO2 := Lib.hid (show (es.take (k + 1)).all okE = b by rw [HO.out]; simp [okE, hc1])
          clear hc1
          cases b
          · go_wp2_with (first | (go_at_call 47; refine cP.out.mono ?_; rintro e w1 ⟨rfl, rfl⟩) | (at_builtin; refine wpList_own_push rfl _ _ 26 rfl w.heap.size 4 i0 _ 1 Tryd.underlying26 hi hz0 hz1 hz2 rfl _ L rfl w _ _ rfl (by assumption) rfl hlo (by omega) ?_; intro v' w' ho2))
            go_roundw
            case rel => exact ⟨k + 1, by omega, by go_num, by rw [HO2.out], by rw [HE.out]; exact ho2⟩
            case measure => simp [RowKit.intOf]; omega
          · go_wp2_with (first | (go_at_call 47; refine cP.out.mono ?_; rintro e w1 ⟨rfl, rfl⟩) | (at_builtin; refine wpList_own_push rfl _ _ 26 rfl w.heap.size 4 i0 _ 1 Tryd.underlying26 hi hz0 hz1 hz2 rfl _ L rfl w _ _ rfl (by assumption) rfl hlo (by omega) ?_; intro v' w' ho2))
            go_roundw
            case rel => exact ⟨k + 1, by omega, by go_num, by rw [HO2.out], by rw [HE.out]; exact ho2⟩
            case measure => simp [RowKit.intOf]; omega
        · have HE := Lib.hid (HK.out false (by simp [stL, hc1]))
          have HO2 := Lib.hid (show (es.take (k + 1)).all okE = b by rw [HO.out]; simp [okE, hc1])
          clear hc1
          cases b
          · go_wp2_with (first | (go_at_call 47; refine cP.out.mono ?_; rintro e w1 ⟨rfl, rfl⟩) | (at_builtin; refine wpList_own_push rfl _ _ 26 rfl w.heap.size 4 i0 _ 1 Tryd.underlying26 hi hz0 hz1 hz2 rfl _ L rfl w _ _ rfl (by assumption) rfl hlo (by omega) ?_; intro v' w' ho2))
            go_roundw
            case rel => exact ⟨k + 1, by omega, by go_num, by rw [HO2.out], by rw [HE.out]; exact ho2⟩
            case measure => simp [RowKit.intOf]; omega
          · go_wp2_with (first | (go_at_call 47; refine cP.out.mono ?_; rintro e w1 ⟨rfl, rfl⟩) | (at_builtin; refine wpList_own_push rfl _ _ 26 rfl w.heap.size 4 i0 _ 1 Tryd.underlying26 hi hz0 hz1 hz2 rfl _ L rfl w _ _ rfl (by assumption) rfl hlo (by omega) ?_; intro v' w' ho2))
            go_roundw
            case rel => exact ⟨k + 1, by omega, by go_num, by rw [HO2.out], by rw [HE.out]; exact ho2⟩
            case measure => simp [RowKit.intOf]; omega
        · have HE := Lib.hid (HK.out false (by simp [stL, hc1]))
          have HO2 := Lib.hid (show (es.take (k + 1)).all okE = false by rw [HO.out]; simp [okE, hc1])
          clear hc1
          cases b
          · go_wp2_with (first | (go_at_call 47; refine cP.out.mono ?_; rintro e w1 ⟨rfl, rfl⟩) | (at_builtin; refine wpList_own_push rfl _ _ 26 rfl w.heap.size 4 i0 _ 1 Tryd.underlying26 hi hz0 hz1 hz2 rfl _ L rfl w _ _ rfl (by assumption) rfl hlo (by omega) ?_; intro v' w' ho2))
            go_roundw
            case rel => exact ⟨k + 1, by omega, by go_num, by rw [HO2.out], by rw [HE.out]; exact ho2⟩
            case measure => simp [RowKit.intOf]; omega
          · go_wp2_with (first | (go_at_call 47; refine cP.out.mono ?_; rintro e w1 ⟨rfl, rfl⟩) | (at_builtin; refine wpList_own_push rfl _ _ 26 rfl w.heap.size 4 i0 _ 1 Tryd.underlying26 hi hz0 hz1 hz2 rfl _ L rfl w _ _ rfl (by assumption) rfl hlo (by omega) ?_; intro v' w' ho2))
            go_roundw
            case rel => exact ⟨k + 1, by omega, by go_num, by rw [HO2.out], by rw [HE.out]; exact ho2⟩
            case measure => simp [RowKit.intOf]; omega
      · have hc1 : clsE r = 3 := by simp [clsE, h1]
        have HE := Lib.hid (HK.out false (by simp [stL, hc1]))
        have HO2 := Lib.hid (show (es.take (k + 1)).all okE = b by rw [HO.out]; simp [okE, hc1])
        clear hc1
        cases b
        · go_wp2_with (at_builtin; refine wpList_own_push rfl _ _ 26 rfl w.heap.size 4 i0 _ 1 Tryd.underlying26 hi hz0 hz1 hz2 rfl _ L rfl w _ _ rfl (by assumption) rfl hlo (by omega) ?_; intro v' w' ho2)
          go_roundw
          case rel => exact ⟨k + 1, by omega, by go_num, by rw [HO2.out], by rw [HE.out]; exact ho2⟩
          case measure => simp [RowKit.intOf]; omega
        · go_wp2_with (at_builtin; refine wpList_own_push rfl _ _ 26 rfl w.heap.size 4 i0 _ 1 Tryd.underlying26 hi hz0 hz1 hz2 rfl _ L rfl w _ _ rfl (by assumption) rfl hlo (by omega) ?_; intro v' w' ho2)
          go_roundw
          case rel => exact ⟨k + 1, by omega, by go_num, by rw [HO2.out], by rw [HE.out]; exact ho2⟩
          case measure => simp [RowKit.intOf]; omega
    · have ho' := ho.out
      have hke : es.take k = es := List.take_of_length_le (by have := HN.out; omega)
      rw [hke] at ho' ⊢
      obtain ⟨b, hb⟩ : ∃ b, b = es.all okE := ⟨_, rfl⟩
      rw [← hb]
      have HBb := Lib.hid hb
      clear hb
      go_wp2
      go_ret2
      refine ⟨_, ?_, ho'⟩
      rw [← HBb.out]
      rfl
set_option maxHeartbeats 2000000 in
theorem stays_false_true (A : Option Addr) (c : Nat) (es : List Int) (w : World) (hr : Reads w w.heap.size 1 A es.length (icells es)) (hn : es.length ≤ 1048576) :
    Calls Tryd.prog 26 #[.slice A es.length c, .bool false, .bool true] w fun e w' => ∃ v, e = .returned (.tuple #[v, .bool (es.all okE)]) ∧ Own 4 w.heap.size v (tcells (es.map (stL false true))) w w' := by
  obtain ⟨i0, hi, hz0, hz1, hz2⟩ := info_parts bool_info
  have hst := own_start w 4
  have HR := Lib.hid hr
  have HS := Lib.hid hst
  clear hr hst
  obtain ⟨n, hnn⟩ : ∃ n, n = es.length := ⟨_, rfl⟩
  rw [← hnn] at hn ⊢
  have HN := Lib.hid hnn
  clear hnn
  go_enter Tryd.func26, Tryd.ntmps26
  go_wp2
  go_loopw [8, 9, 16] (fun vo vl vi wr => ∃ k : Nat, k ≤ n ∧ vi = .int .i64 k ∧ vl = .bool ((es.take k).all okE) ∧ Hid (Own 4 w.heap.size vo (tcells ((es.take k).map (stL false true))) w wr)) (fun _ _ vi _ => n - (RowKit.intOf vi).toNat)
  case atStart => exact ⟨0, Nat.zero_le _, rfl, by simp, by simpa [Hid, tcells] using HS.out⟩
  case round =>
    obtain ⟨k, hk, rfl, rfl, ho⟩ := hrel
    by_cases hlt : k < n
    · obtain ⟨ad, u, hA, _, hu, hc⟩ := (HR.out.below ho.out.isBelow).at_ (k := k) (by have := HN.out; omega)
      have hke : k < es.length := by have := HN.out; omega
      obtain ⟨r, hr⟩ : ∃ r, r = es[k] := ⟨_, rfl⟩
      have hu' : u = .int .i32 r := by
        rw [hr]; simp [icells, List.getElem?_eq_getElem hke] at hu; exact hu.symm
      subst hu' hA
      have cP := Lib.hid (classOf_any r wr)
      have HRr := Lib.hid hr
      clear hr
      have HK := Lib.hid (show ∀ b, stL false true r = b → tcells ((es.take (k + 1)).map (stL false true)) = tcells ((es.take k).map (stL false true)) ++ [.bool b] by
        intro b hb
        rw [take_map_snoc _ _ _ hke, ← HRr.out, hb]; simp [tcells])
      have HO := Lib.hid (show (es.take (k + 1)).all okE = ((es.take k).all okE && okE r) by rw [take_all_snoc _ _ _ hke, ← HRr.out])
      have hlo : ((tcells ((es.take k).map (stL false true))).length + 1) * 1 ≤ 140737488355328 := by rw [tcells_length, List.length_map, List.length_take]; omega
      have ho' := ho.out
      obtain ⟨L, hL⟩ : ∃ L, L = tcells ((es.take k).map (stL false true)) := ⟨_, rfl⟩
      rw [← hL] at HK hlo ho'
      clear hL ho
      obtain ⟨b, hb⟩ : ∃ b, b = (es.take k).all okE := ⟨_, rfl⟩
      rw [← hb] at HO ⊢
      clear hb
      by_cases h1 : 0 ≤ r
      · have hc1 : clsE r = classZ r := by simp [clsE, h1]
        have key := class_le5 r
        obtain ⟨K, hK⟩ : ∃ K, K = classZ r := ⟨_, rfl⟩
        rw [← hK] at cP key hc1
        clear hK
        rcases key with rfl | rfl | rfl | rfl | rfl
        · have HE := Lib.hid (HK.out false (by simp [stL, hc1]))
          have HO2 := Lib.hid (show (es.take (k + 1)).all okE = false by rw [HO.out]; simp [okE, hc1])
          clear hc1
          cases b
          · go_wp2_with (first | (go_at_call 47; refine cP.out.mono ?_; rintro e w1 ⟨rfl, rfl⟩) | (at_builtin; refine wpList_own_push rfl _ _ 26 rfl w.heap.size 4 i0 _ 1 Tryd.underlying26 hi hz0 hz1 hz2 rfl _ L rfl w _ _ rfl (by assumption) rfl hlo (by omega) ?_; intro v' w' ho2))
            go_roundw
            case rel => exact ⟨k + 1, by omega, by go_num, by rw [HO2.out], by rw [HE.out]; exact ho2⟩
            case measure => simp [RowKit.intOf]; omega
          · go_wp2_with (first | (go_at_call 47; refine cP.out.mono ?_; rintro e w1 ⟨rfl, rfl⟩) | (at_builtin; refine wpList_own_push rfl _ _ 26 rfl w.heap.size 4 i0 _ 1 Tryd.underlying26 hi hz0 hz1 hz2 rfl _ L rfl w _ _ rfl (by assumption) rfl hlo (by omega) ?_; intro v' w' ho2))
            go_roundw
            case rel => exact ⟨k + 1, by omega, by go_num, by rw [HO2.out], by rw [HE.out]; exact ho2⟩
            case measure => simp [RowKit.intOf]; omega
        · have HE := Lib.hid (HK.out (decide (r < 128)) (by simp [stL, hc1]))
          have HO2 := Lib.hid (show (es.take (k + 1)).all okE = b by rw [HO.out]; simp [okE, hc1])
          clear hc1
          cases b
          · go_wp2_with (first | (go_at_call 47; refine cP.out.mono ?_; rintro e w1 ⟨rfl, rfl⟩) | (at_builtin; refine wpList_own_push rfl _ _ 26 rfl w.heap.size 4 i0 _ 1 Tryd.underlying26 hi hz0 hz1 hz2 rfl _ L rfl w _ _ rfl (by assumption) rfl hlo (by omega) ?_; intro v' w' ho2))
            go_roundw
            case rel => exact ⟨k + 1, by omega, by go_num, by rw [HO2.out], by rw [HE.out]; exact ho2⟩
            case measure => simp [RowKit.intOf]; omega
          · go_wp2_with (first | (go_at_call 47; refine cP.out.mono ?_; rintro e w1 ⟨rfl, rfl⟩) | (at_builtin; refine wpList_own_push rfl _ _ 26 rfl w.heap.size 4 i0 _ 1 Tryd.underlying26 hi hz0 hz1 hz2 rfl _ L rfl w _ _ rfl (by assumption) rfl hlo (by omega) ?_; intro v' w' ho2))
            go_roundw
            case rel => exact ⟨k + 1, by omega, by go_num, by rw [HO2.out], by rw [HE.out]; exact ho2⟩
            case measure => simp [RowKit.intOf]; omega
        · have HE := Lib.hid (HK.out false (by simp [stL, hc1]))
          have HO2 := Lib.hid (show (es.take (k + 1)).all okE = b by rw [HO.out]; simp [okE, hc1])
          clear hc1
          cases b
          · go_wp2_with (first | (go_at_call 47; refine cP.out.mono ?_; rintro e w1 ⟨rfl, rfl⟩) | (at_builtin; refine wpList_own_push rfl _ _ 26 rfl w.heap.size 4 i0 _ 1 Tryd.underlying26 hi hz0 hz1 hz2 rfl _ L rfl w _ _ rfl (by assumption) rfl hlo (by omega) ?_; intro v' w' ho2))
            go_roundw
            case rel => exact ⟨k + 1, by omega, by go_num, by rw [HO2.out], by rw [HE.out]; exact ho2⟩
            case measure => simp [RowKit.intOf]; omega
          · go_wp2_with (first | (go_at_call 47; refine cP.out.mono ?_; rintro e w1 ⟨rfl, rfl⟩) | (at_builtin; refine wpList_own_push rfl _ _ 26 rfl w.heap.size 4 i0 _ 1 Tryd.underlying26 hi hz0 hz1 hz2 rfl _ L rfl w _ _ rfl (by assumption) rfl hlo (by omega) ?_; intro v' w' ho2))
            go_roundw
            case rel => exact ⟨k + 1, by omega, by go_num, by rw [HO2.out], by rw [HE.out]; exact ho2⟩
            case measure => simp [RowKit.intOf]; omega
        · have HE := Lib.hid (HK.out false (by simp [stL, hc1]))
          have HO2 := Lib.hid (show (es.take (k + 1)).all okE = b by rw [HO.out]; simp [okE, hc1])
          clear hc1
          cases b
          · go_wp2_with (first | (go_at_call 47; refine cP.out.mono ?_; rintro e w1 ⟨rfl, rfl⟩) | (at_builtin; refine wpList_own_push rfl _ _ 26 rfl w.heap.size 4 i0 _ 1 Tryd.underlying26 hi hz0 hz1 hz2 rfl _ L rfl w _ _ rfl (by assumption) rfl hlo (by omega) ?_; intro v' w' ho2))
            go_roundw
            case rel => exact ⟨k + 1, by omega, by go_num, by rw [HO2.out], by rw [HE.out]; exact ho2⟩
            case measure => simp [RowKit.intOf]; omega
          · go_wp2_with (first | (go_at_call 47; refine cP.out.mono ?_; rintro e w1 ⟨rfl, rfl⟩) | (at_builtin; refine wpList_own_push rfl _ _ 26 rfl w.heap.size 4 i0 _ 1 Tryd.underlying26 hi hz0 hz1 hz2 rfl _ L rfl w _ _ rfl (by assumption) rfl hlo (by omega) ?_; intro v' w' ho2))
            go_roundw
            case rel => exact ⟨k + 1, by omega, by go_num, by rw [HO2.out], by rw [HE.out]; exact ho2⟩
            case measure => simp [RowKit.intOf]; omega
        · have HE := Lib.hid (HK.out false (by simp [stL, hc1]))
          have HO2 := Lib.hid (show (es.take (k + 1)).all okE = false by rw [HO.out]; simp [okE, hc1])
          clear hc1
          cases b
          · go_wp2_with (first | (go_at_call 47; refine cP.out.mono ?_; rintro e w1 ⟨rfl, rfl⟩) | (at_builtin; refine wpList_own_push rfl _ _ 26 rfl w.heap.size 4 i0 _ 1 Tryd.underlying26 hi hz0 hz1 hz2 rfl _ L rfl w _ _ rfl (by assumption) rfl hlo (by omega) ?_; intro v' w' ho2))
            go_roundw
            case rel => exact ⟨k + 1, by omega, by go_num, by rw [HO2.out], by rw [HE.out]; exact ho2⟩
            case measure => simp [RowKit.intOf]; omega
          · go_wp2_with (first | (go_at_call 47; refine cP.out.mono ?_; rintro e w1 ⟨rfl, rfl⟩) | (at_builtin; refine wpList_own_push rfl _ _ 26 rfl w.heap.size 4 i0 _ 1 Tryd.underlying26 hi hz0 hz1 hz2 rfl _ L rfl w _ _ rfl (by assumption) rfl hlo (by omega) ?_; intro v' w' ho2))
            go_roundw
            case rel => exact ⟨k + 1, by omega, by go_num, by rw [HO2.out], by rw [HE.out]; exact ho2⟩
            case measure => simp [RowKit.intOf]; omega
      · have hc1 : clsE r = 3 := by simp [clsE, h1]
        have HE := Lib.hid (HK.out false (by simp [stL, hc1]))
        have HO2 := Lib.hid (show (es.take (k + 1)).all okE = b by rw [HO.out]; simp [okE, hc1])
        clear hc1
        cases b
        · go_wp2_with (at_builtin; refine wpList_own_push rfl _ _ 26 rfl w.heap.size 4 i0 _ 1 Tryd.underlying26 hi hz0 hz1 hz2 rfl _ L rfl w _ _ rfl (by assumption) rfl hlo (by omega) ?_; intro v' w' ho2)
          go_roundw
          case rel => exact ⟨k + 1, by omega, by go_num, by rw [HO2.out], by rw [HE.out]; exact ho2⟩
          case measure => simp [RowKit.intOf]; omega
        · go_wp2_with (at_builtin; refine wpList_own_push rfl _ _ 26 rfl w.heap.size 4 i0 _ 1 Tryd.underlying26 hi hz0 hz1 hz2 rfl _ L rfl w _ _ rfl (by assumption) rfl hlo (by omega) ?_; intro v' w' ho2)
          go_roundw
          case rel => exact ⟨k + 1, by omega, by go_num, by rw [HO2.out], by rw [HE.out]; exact ho2⟩
          case measure => simp [RowKit.intOf]; omega
    · have ho' := ho.out
      have hke : es.take k = es := List.take_of_length_le (by have := HN.out; omega)
      rw [hke] at ho' ⊢
      obtain ⟨b, hb⟩ : ∃ b, b = es.all okE := ⟨_, rfl⟩
      rw [← hb]
      have HBb := Lib.hid hb
      clear hb
      go_wp2
      go_ret2
      refine ⟨_, ?_, ho'⟩
      rw [← HBb.out]
      rfl
set_option maxHeartbeats 2000000 in
theorem stays_true_false (A : Option Addr) (c : Nat) (es : List Int) (w : World) (hr : Reads w w.heap.size 1 A es.length (icells es)) (hn : es.length ≤ 1048576) :
    Calls Tryd.prog 26 #[.slice A es.length c, .bool true, .bool false] w fun e w' => ∃ v, e = .returned (.tuple #[v, .bool (es.all okE)]) ∧ Own 4 w.heap.size v (tcells (es.map (stL true false))) w w' := by
  obtain ⟨i0, hi, hz0, hz1, hz2⟩ := info_parts bool_info
  have hst := own_start w 4
  have HR := Lib.hid hr
  have HS := Lib.hid hst
  clear hr hst
  obtain ⟨n, hnn⟩ : ∃ n, n = es.length := ⟨_, rfl⟩
  rw [← hnn] at hn ⊢
  have HN := Lib.hid hnn
  clear hnn
  go_enter Tryd.func26, Tryd.ntmps26
  go_wp2
  go_loopw [8, 9, 16] (fun vo vl vi wr => ∃ k : Nat, k ≤ n ∧ vi = .int .i64 k ∧ vl = .bool ((es.take k).all okE) ∧ Hid (Own 4 w.heap.size vo (tcells ((es.take k).map (stL true false))) w wr)) (fun _ _ vi _ => n - (RowKit.intOf vi).toNat)
  case atStart => exact ⟨0, Nat.zero_le _, rfl, by simp, by simpa [Hid, tcells] using HS.out⟩
  case round =>
    obtain ⟨k, hk, rfl, rfl, ho⟩ := hrel
    by_cases hlt : k < n
    · obtain ⟨ad, u, hA, _, hu, hc⟩ := (HR.out.below ho.out.isBelow).at_ (k := k) (by have := HN.out; omega)
      have hke : k < es.length := by have := HN.out; omega
      obtain ⟨r, hr⟩ : ∃ r, r = es[k] := ⟨_, rfl⟩
      have hu' : u = .int .i32 r := by
        rw [hr]; simp [icells, List.getElem?_eq_getElem hke] at hu; exact hu.symm
      subst hu' hA
      have cP := Lib.hid (classOf_any r wr)
      have HRr := Lib.hid hr
      clear hr
      have HK := Lib.hid (show ∀ b, stL true false r = b → tcells ((es.take (k + 1)).map (stL true false)) = tcells ((es.take k).map (stL true false)) ++ [.bool b] by
        intro b hb
        rw [take_map_snoc _ _ _ hke, ← HRr.out, hb]; simp [tcells])
      have HO := Lib.hid (show (es.take (k + 1)).all okE = ((es.take k).all okE && okE r) by rw [take_all_snoc _ _ _ hke, ← HRr.out])
      have hlo : ((tcells ((es.take k).map (stL true false))).length + 1) * 1 ≤ 140737488355328 := by rw [tcells_length, List.length_map, List.length_take]; omega
      have ho' := ho.out
      obtain ⟨L, hL⟩ : ∃ L, L = tcells ((es.take k).map (stL true false)) := ⟨_, rfl⟩
      rw [← hL] at HK hlo ho'
      clear hL ho
      obtain ⟨b, hb⟩ : ∃ b, b = (es.take k).all okE := ⟨_, rfl⟩
      rw [← hb] at HO ⊢
      clear hb
      by_cases h1 : 0 ≤ r
      · have hc1 : clsE r = classZ r := by simp [clsE, h1]
        have key := class_le5 r
        obtain ⟨K, hK⟩ : ∃ K, K = classZ r := ⟨_, rfl⟩
        rw [← hK] at cP key hc1
        clear hK
        rcases key with rfl | rfl | rfl | rfl | rfl
        · have HE := Lib.hid (HK.out false (by simp [stL, hc1]))
          have HO2 := Lib.hid (show (es.take (k + 1)).all okE = false by rw [HO.out]; simp [okE, hc1])
          clear hc1
          cases b
          · go_wp2_with (first | (go_at_call 47; refine cP.out.mono ?_; rintro e w1 ⟨rfl, rfl⟩) | (at_builtin; refine wpList_own_push rfl _ _ 26 rfl w.heap.size 4 i0 _ 1 Tryd.underlying26 hi hz0 hz1 hz2 rfl _ L rfl w _ _ rfl (by assumption) rfl hlo (by omega) ?_; intro v' w' ho2))
            go_roundw
            case rel => exact ⟨k + 1, by omega, by go_num, by rw [HO2.out], by rw [HE.out]; exact ho2⟩
            case measure => simp [RowKit.intOf]; omega
          · go_wp2_with (first | (go_at_call 47; refine cP.out.mono ?_; rintro e w1 ⟨rfl, rfl⟩) | (at_builtin; refine wpList_own_push rfl _ _ 26 rfl w.heap.size 4 i0 _ 1 Tryd.underlying26 hi hz0 hz1 hz2 rfl _ L rfl w _ _ rfl (by assumption) rfl hlo (by omega) ?_; intro v' w' ho2))
            go_roundw
            case rel => exact ⟨k + 1, by omega, by go_num, by rw [HO2.out], by rw [HE.out]; exact ho2⟩
            case measure => simp [RowKit.intOf]; omega
        · have HE := Lib.hid (HK.out true (by simp [stL, hc1]))
          have HO2 := Lib.hid (show (es.take (k + 1)).all okE = b by rw [HO.out]; simp [okE, hc1])
          clear hc1
          cases b
          · go_wp2_with (first | (go_at_call 47; refine cP.out.mono ?_; rintro e w1 ⟨rfl, rfl⟩) | (at_builtin; refine wpList_own_push rfl _ _ 26 rfl w.heap.size 4 i0 _ 1 Tryd.underlying26 hi hz0 hz1 hz2 rfl _ L rfl w _ _ rfl (by assumption) rfl hlo (by omega) ?_; intro v' w' ho2))
            go_roundw
            case rel => exact ⟨k + 1, by omega, by go_num, by rw [HO2.out], by rw [HE.out]; exact ho2⟩
            case measure => simp [RowKit.intOf]; omega
          · go_wp2_with (first | (go_at_call 47; refine cP.out.mono ?_; rintro e w1 ⟨rfl, rfl⟩) | (at_builtin; refine wpList_own_push rfl _ _ 26 rfl w.heap.size 4 i0 _ 1 Tryd.underlying26 hi hz0 hz1 hz2 rfl _ L rfl w _ _ rfl (by assumption) rfl hlo (by omega) ?_; intro v' w' ho2))
            go_roundw
            case rel => exact ⟨k + 1, by omega, by go_num, by rw [HO2.out], by rw [HE.out]; exact ho2⟩
            case measure => simp [RowKit.intOf]; omega
        · have HE := Lib.hid (HK.out true (by simp [stL, hc1]))
          have HO2 := Lib.hid (show (es.take (k + 1)).all okE = b by rw [HO.out]; simp [okE, hc1])
          clear hc1
          cases b
          · go_wp2_with (first | (go_at_call 47; refine cP.out.mono ?_; rintro e w1 ⟨rfl, rfl⟩) | (at_builtin; refine wpList_own_push rfl _ _ 26 rfl w.heap.size 4 i0 _ 1 Tryd.underlying26 hi hz0 hz1 hz2 rfl _ L rfl w _ _ rfl (by assumption) rfl hlo (by omega) ?_; intro v' w' ho2))
            go_roundw
            case rel => exact ⟨k + 1, by omega, by go_num, by rw [HO2.out], by rw [HE.out]; exact ho2⟩
            case measure => simp [RowKit.intOf]; omega
          · go_wp2_with (first | (go_at_call 47; refine cP.out.mono ?_; rintro e w1 ⟨rfl, rfl⟩) | (at_builtin; refine wpList_own_push rfl _ _ 26 rfl w.heap.size 4 i0 _ 1 Tryd.underlying26 hi hz0 hz1 hz2 rfl _ L rfl w _ _ rfl (by assumption) rfl hlo (by omega) ?_; intro v' w' ho2))
            go_roundw
            case rel => exact ⟨k + 1, by omega, by go_num, by rw [HO2.out], by rw [HE.out]; exact ho2⟩
            case measure => simp [RowKit.intOf]; omega
        · have HE := Lib.hid (HK.out false (by simp [stL, hc1]))
          have HO2 := Lib.hid (show (es.take (k + 1)).all okE = b by rw [HO.out]; simp [okE, hc1])
          clear hc1
          cases b
          · go_wp2_with (first | (go_at_call 47; refine cP.out.mono ?_; rintro e w1 ⟨rfl, rfl⟩) | (at_builtin; refine wpList_own_push rfl _ _ 26 rfl w.heap.size 4 i0 _ 1 Tryd.underlying26 hi hz0 hz1 hz2 rfl _ L rfl w _ _ rfl (by assumption) rfl hlo (by omega) ?_; intro v' w' ho2))
            go_roundw
            case rel => exact ⟨k + 1, by omega, by go_num, by rw [HO2.out], by rw [HE.out]; exact ho2⟩
            case measure => simp [RowKit.intOf]; omega
          · go_wp2_with (first | (go_at_call 47; refine cP.out.mono ?_; rintro e w1 ⟨rfl, rfl⟩) | (at_builtin; refine wpList_own_push rfl _ _ 26 rfl w.heap.size 4 i0 _ 1 Tryd.underlying26 hi hz0 hz1 hz2 rfl _ L rfl w _ _ rfl (by assumption) rfl hlo (by omega) ?_; intro v' w' ho2))
            go_roundw
            case rel => exact ⟨k + 1, by omega, by go_num, by rw [HO2.out], by rw [HE.out]; exact ho2⟩
            case measure => simp [RowKit.intOf]; omega
        · have HE := Lib.hid (HK.out false (by simp [stL, hc1]))
          have HO2 := Lib.hid (show (es.take (k + 1)).all okE = false by rw [HO.out]; simp [okE, hc1])
          clear hc1
          cases b
          · go_wp2_with (first | (go_at_call 47; refine cP.out.mono ?_; rintro e w1 ⟨rfl, rfl⟩) | (at_builtin; refine wpList_own_push rfl _ _ 26 rfl w.heap.size 4 i0 _ 1 Tryd.underlying26 hi hz0 hz1 hz2 rfl _ L rfl w _ _ rfl (by assumption) rfl hlo (by omega) ?_; intro v' w' ho2))
            go_roundw
            case rel => exact ⟨k + 1, by omega, by go_num, by rw [HO2.out], by rw [HE.out]; exact ho2⟩
            case measure => simp [RowKit.intOf]; omega
          · go_wp2_with (first | (go_at_call 47; refine cP.out.mono ?_; rintro e w1 ⟨rfl, rfl⟩) | (at_builtin; refine wpList_own_push rfl _ _ 26 rfl w.heap.size 4 i0 _ 1 Tryd.underlying26 hi hz0 hz1 hz2 rfl _ L rfl w _ _ rfl (by assumption) rfl hlo (by omega) ?_; intro v' w' ho2))
            go_roundw
            case rel => exact ⟨k + 1, by omega, by go_num, by rw [HO2.out], by rw [HE.out]; exact ho2⟩
            case measure => simp [RowKit.intOf]; omega
      · have hc1 : clsE r = 3 := by simp [clsE, h1]
        have HE := Lib.hid (HK.out false (by simp [stL, hc1]))
        have HO2 := Lib.hid (show (es.take (k + 1)).all okE = b by rw [HO.out]; simp [okE, hc1])
        clear hc1
        cases b
        · go_wp2_with (at_builtin; refine wpList_own_push rfl _ _ 26 rfl w.heap.size 4 i0 _ 1 Tryd.underlying26 hi hz0 hz1 hz2 rfl _ L rfl w _ _ rfl (by assumption) rfl hlo (by omega) ?_; intro v' w' ho2)
          go_roundw
          case rel => exact ⟨k + 1, by omega, by go_num, by rw [HO2.out], by rw [HE.out]; exact ho2⟩
          case measure => simp [RowKit.intOf]; omega
        · go_wp2_with (at_builtin; refine wpList_own_push rfl _ _ 26 rfl w.heap.size 4 i0 _ 1 Tryd.underlying26 hi hz0 hz1 hz2 rfl _ L rfl w _ _ rfl (by assumption) rfl hlo (by omega) ?_; intro v' w' ho2)
          go_roundw
          case rel => exact ⟨k + 1, by omega, by go_num, by rw [HO2.out], by rw [HE.out]; exact ho2⟩
          case measure => simp [RowKit.intOf]; omega
    · have ho' := ho.out
      have hke : es.take k = es := List.take_of_length_le (by have := HN.out; omega)
      rw [hke] at ho' ⊢
      obtain ⟨b, hb⟩ : ∃ b, b = es.all okE := ⟨_, rfl⟩
      rw [← hb]
      have HBb := Lib.hid hb
      clear hb
      go_wp2
      go_ret2
      refine ⟨_, ?_, ho'⟩
      rw [← HBb.out]
      rfl
end Go.Proofs.YtpboiodigfdajaaDoor
