/-
  Contracts: laws.prints and laws.graphics tell for each element whether it stays; laws.one.
-/
import Derived.Test.YtpboiodigfdajaaDoorRowWords
import Derived.Test.YtpboiodigfdajaaDoorOwn
import Derived.Test.YtpboiodigfdajaaDoorPlainQuote
import Derived.Test.YtpboiodigfdajaaDoorPrintTabs
import Derived.Outline
namespace Go.Proofs.YtpboiodigfdajaaDoor
open Go.RowKit
set_option linter.unusedVariables false
def icells (l : List Int) : List Value := l.map (Value.int .i32)
def tcells (l : List Bool) : List Value := l.map Value.bool
theorem icells_length (l : List Int) : (icells l).length = l.length := by simp [icells]
theorem tcells_length (l : List Bool) : (tcells l).length = l.length := by simp [tcells]
theorem bool_info : (Tryd.prog.info? 4).map (fun i => (i.zero, i.size, i.bytes)) = some (some (.bool false), 1, 1) := by kernel_rfl
theorem ximplP (r : Int) (w : World) (h0 : -2147483648 ≤ r) (h1 : r ≤ 2147483647) (hT : PrintT w) : Calls Tryd.prog 37 #[.int .i32 r] w fun e w' => e = .returned (.bool (printB r)) ∧ ∃ q, w' = w.drewN q := by
  have C := Lib.hid (isPrint_any r w h0 h1 hT)
  clear hT
  go_enter Tryd.func37, Tryd.ntmps37
  go_wp2_with (go_at_call 54; refine C.out.mono ?_; rintro e w' ⟨rfl, q, rfl⟩)
  go_ret
  exact ⟨rfl, q, rfl⟩
theorem take_map_snoc {α β : Type} (f : α → β) (l : List α) (k : Nat) (h : k < l.length) : (l.take (k + 1)).map f = (l.take k).map f ++ [f (l[k])] := by
  rw [List.take_succ_eq_append_getElem h, List.map_append]; rfl
set_option maxHeartbeats 1000000 in
theorem prints_any (A : Option Addr) (c : Nat) (es : List Int) (asc : Bool) (w : World) (hr : Reads w w.heap.size 1 A es.length (icells es)) (hv : ∀ r ∈ es, -2147483648 ≤ r ∧ r ≤ 2147483647) (hn : es.length ≤ 1048576) (hT : PrintT w) :
    Calls Tryd.prog 18 #[.slice A es.length c, .bool asc] w fun e w' => ∃ v, e = .returned v ∧ Own 4 w.heap.size v (tcells (es.map (stP asc))) w w' := by
  obtain ⟨i0, hi, hz0, hz1, hz2⟩ := info_parts bool_info
  have hst := own_start w 4
  have HR := Lib.hid hr
  have HT := Lib.hid hT
  have HV := Lib.hid hv
  have HS := Lib.hid hst
  clear hr hT hv hst
  obtain ⟨n, hnn⟩ : ∃ n, n = es.length := ⟨_, rfl⟩
  rw [← hnn] at hn ⊢
  have HN := Lib.hid hnn
  clear hnn
  go_enter Tryd.func18, Tryd.ntmps18
  go_wp2
  go_loopw [5, 7, 11] (fun vo _ vi wr => ∃ k : Nat, k ≤ n ∧ vi = .int .i64 k ∧ Hid (Own 4 w.heap.size vo (tcells ((es.take k).map (stP asc))) w wr)) (fun _ _ vi _ => n - (intOf vi).toNat)
  case atStart => exact ⟨0, Nat.zero_le _, rfl, by simpa [Hid, tcells] using HS.out⟩
  case round =>
    obtain ⟨k, hk, rfl, ho⟩ := hrel
    by_cases hlt : k < n
    · obtain ⟨ad, u, hA, _, hu, hc⟩ := (HR.out.below ho.out.isBelow).at_ (k := k) (by have := HN.out; omega)
      have hke : k < es.length := by have := HN.out; omega
      obtain ⟨r, hr⟩ : ∃ r, r = es[k] := ⟨_, rfl⟩
      have hu' : u = .int .i32 r := by
        rw [hr]; simp [icells, List.getElem?_eq_getElem hke] at hu; exact hu.symm
      subst hu' hA
      have hrb := HV.out r (by rw [hr]; exact List.getElem_mem hke)
      have cP := Lib.hid (ximplP r wr hrb.1 hrb.2 (HT.out.below ho.out.isBelow))
      have HRr := Lib.hid hr
      clear hr
      have HK := Lib.hid (show ∀ b, stP asc r = b → tcells ((es.take (k + 1)).map (stP asc)) = tcells ((es.take k).map (stP asc)) ++ [.bool b] by
        intro b hb
        rw [take_map_snoc _ _ _ hke, ← HRr.out, hb]; simp [tcells])
      have hlo : ((tcells ((es.take k).map (stP asc))).length + 1) * 1 ≤ 140737488355328 := by rw [tcells_length, List.length_map, List.length_take]; omega
      have ho' := ho.out
      have key : (¬ 0 ≤ r) ∨ (0 ≤ r ∧ asc = false) ∨ (0 ≤ r ∧ asc = true ∧ r < 128) ∨ (0 ≤ r ∧ asc = true ∧ ¬ r < 128) := by
        cases asc <;> simp <;> omega
      obtain ⟨L, hL⟩ : ∃ L, L = tcells ((es.take k).map (stP asc)) := ⟨_, rfl⟩
      rw [← hL] at HK hlo ho'
      clear hL
      obtain ⟨p, hp⟩ : ∃ p, printB r = p := ⟨_, rfl⟩
      rw [hp] at cP
      have HP := Lib.hid hp
      clear hp
      rcases key with h1 | ⟨h1, rfl⟩ | ⟨h1, rfl, h2⟩ | ⟨h1, rfl, h2⟩
      · have h1' : decide (0 ≤ r) = false := by simpa using h1
        have HE := Lib.hid (HK.out false (by simp [stP, h1']))
        go_wp2_with (at_builtin; refine wpList_own_push rfl _ _ 26 rfl w.heap.size 4 i0 _ 1 Tryd.underlying26 hi hz0 hz1 hz2 rfl _ L rfl w _ _ rfl (by assumption) rfl hlo (by omega) ?_; intro v' w' ho2)
        go_roundw
        case rel => exact ⟨k + 1, by omega, by go_num, by rw [HE.out]; exact ho2⟩
        case measure => simp [intOf]; omega
      · have HE := Lib.hid (HK.out p (by simp only [stP, ← HP.out, printB]; simp [h1]))
        go_wp2_with (first | (go_at_call 37; refine cP.out.mono ?_; rintro e w1 ⟨rfl, q, rfl⟩; have ho3 := ho'.below (below_drewN wr q)) | (at_builtin; refine wpList_own_push rfl _ _ 26 rfl w.heap.size 4 i0 _ 1 Tryd.underlying26 hi hz0 hz1 hz2 rfl _ L rfl w _ _ rfl (by assumption) rfl hlo (by omega) ?_; intro v' w' ho2))
        go_roundw
        case rel => exact ⟨k + 1, by omega, by go_num, by rw [HE.out]; exact ho2⟩
        case measure => simp [intOf]; omega
      · have HE := Lib.hid (HK.out p (by simp only [stP, ← HP.out, printB]; simp [h1, h2]))
        go_wp2_with (first | (go_at_call 37; refine cP.out.mono ?_; rintro e w1 ⟨rfl, q, rfl⟩; have ho3 := ho'.below (below_drewN wr q)) | (at_builtin; refine wpList_own_push rfl _ _ 26 rfl w.heap.size 4 i0 _ 1 Tryd.underlying26 hi hz0 hz1 hz2 rfl _ L rfl w _ _ rfl (by assumption) rfl hlo (by omega) ?_; intro v' w' ho2))
        go_roundw
        case rel => exact ⟨k + 1, by omega, by go_num, by rw [HE.out]; exact ho2⟩
        case measure => simp [intOf]; omega
      · have h2' : decide (r < 128) = false := by simpa using h2
        have HE := Lib.hid (HK.out false (by simp [stP, h2']))
        go_wp2_with (at_builtin; refine wpList_own_push rfl _ _ 26 rfl w.heap.size 4 i0 _ 1 Tryd.underlying26 hi hz0 hz1 hz2 rfl _ L rfl w _ _ rfl (by assumption) rfl hlo (by omega) ?_; intro v' w' ho2)
        go_roundw
        case rel => exact ⟨k + 1, by omega, by go_num, by rw [HE.out]; exact ho2⟩
        case measure => simp [intOf]; omega
    · have ho' := ho.out
      have hke : es.take k = es := List.take_of_length_le (by have := HN.out; omega)
      rw [hke] at ho'
      go_wp2
      go_ret
      exact ⟨_, rfl, ho'⟩
theorem ximplG (r : Int) (w : World) (h0 : -2147483648 ≤ r) (h1 : r ≤ 2147483647) (hT : PrintT w) (hG : GraphicT w) : Calls Tryd.prog 40 #[.int .i32 r] w fun e w' => e = .returned (.bool (printB r || inGraphic r)) ∧ ∃ q, w' = w.drewN q := by
  have C := Lib.hid (isGraphic_any r w h0 h1 hT hG)
  clear hT hG
  obtain ⟨b, hb⟩ : ∃ b, (printB r || inGraphic r) = b := ⟨_, rfl⟩
  rw [hb] at C ⊢
  clear hb
  go_enter Tryd.func40, Tryd.ntmps40
  go_wp2_with (go_at_call 55; refine C.out.mono ?_; rintro e w' ⟨rfl, q, rfl⟩)
  go_ret
  exact ⟨rfl, q, rfl⟩
set_option maxHeartbeats 1000000 in
theorem graphics_any (A : Option Addr) (c : Nat) (es : List Int) (w : World) (hr : Reads w w.heap.size 1 A es.length (icells es)) (hv : ∀ r ∈ es, -2147483648 ≤ r ∧ r ≤ 2147483647) (hn : es.length ≤ 1048576) (hT : PrintT w) (hG : GraphicT w) :
    Calls Tryd.prog 21 #[.slice A es.length c] w fun e w' => ∃ v, e = .returned v ∧ Own 4 w.heap.size v (tcells (es.map stG)) w w' := by
  obtain ⟨i0, hi, hz0, hz1, hz2⟩ := info_parts bool_info
  have hst := own_start w 4
  have HR := Lib.hid hr
  have HT := Lib.hid hT
  have HG := Lib.hid hG
  have HV := Lib.hid hv
  have HS := Lib.hid hst
  clear hr hT hv hst hG
  obtain ⟨n, hnn⟩ : ∃ n, n = es.length := ⟨_, rfl⟩
  rw [← hnn] at hn ⊢
  have HN := Lib.hid hnn
  clear hnn
  go_enter Tryd.func21, Tryd.ntmps21
  go_wp2
  go_loopw [3, 5, 9] (fun vo _ vi wr => ∃ k : Nat, k ≤ n ∧ vi = .int .i64 k ∧ Hid (Own 4 w.heap.size vo (tcells ((es.take k).map stG)) w wr)) (fun _ _ vi _ => n - (intOf vi).toNat)
  case atStart => exact ⟨0, Nat.zero_le _, rfl, by simpa [Hid, tcells] using HS.out⟩
  case round =>
    obtain ⟨k, hk, rfl, ho⟩ := hrel
    by_cases hlt : k < n
    · obtain ⟨ad, u, hA, _, hu, hc⟩ := (HR.out.below ho.out.isBelow).at_ (k := k) (by have := HN.out; omega)
      have hke : k < es.length := by have := HN.out; omega
      obtain ⟨r, hr⟩ : ∃ r, r = es[k] := ⟨_, rfl⟩
      have hu' : u = .int .i32 r := by
        rw [hr]; simp [icells, List.getElem?_eq_getElem hke] at hu; exact hu.symm
      subst hu' hA
      have hrb := HV.out r (by rw [hr]; exact List.getElem_mem hke)
      have cP := Lib.hid (ximplG r wr hrb.1 hrb.2 (HT.out.below ho.out.isBelow) (HG.out.below ho.out.isBelow))
      have HRr := Lib.hid hr
      clear hr
      have HK := Lib.hid (show ∀ b, stG r = b → tcells ((es.take (k + 1)).map stG) = tcells ((es.take k).map stG) ++ [.bool b] by
        intro b hb
        rw [take_map_snoc _ _ _ hke, ← HRr.out, hb]; simp [tcells])
      have hlo : ((tcells ((es.take k).map stG)).length + 1) * 1 ≤ 140737488355328 := by rw [tcells_length, List.length_map, List.length_take]; omega
      have ho' := ho.out
      obtain ⟨L, hL⟩ : ∃ L, L = tcells ((es.take k).map stG) := ⟨_, rfl⟩
      rw [← hL] at HK hlo ho'
      clear hL
      obtain ⟨p, hp⟩ : ∃ p, (printB r || inGraphic r) = p := ⟨_, rfl⟩
      rw [hp] at cP
      have HP := Lib.hid hp
      clear hp
      by_cases h1 : 0 ≤ r
      · have HE := Lib.hid (HK.out p (by simp only [stG, ← HP.out, printB]; simp [h1]))
        go_wp2_with (first | (go_at_call 40; refine cP.out.mono ?_; rintro e w1 ⟨rfl, q, rfl⟩; have ho3 := ho'.below (below_drewN wr q)) | (at_builtin; refine wpList_own_push rfl _ _ 26 rfl w.heap.size 4 i0 _ 1 Tryd.underlying26 hi hz0 hz1 hz2 rfl _ L rfl w _ _ rfl (by assumption) rfl hlo (by omega) ?_; intro v' w' ho2))
        go_roundw
        case rel => exact ⟨k + 1, by omega, by go_num, by rw [HE.out]; exact ho2⟩
        case measure => simp [intOf]; omega
      · have h1' : decide (0 ≤ r) = false := by simpa using h1
        have HE := Lib.hid (HK.out false (by simp [stG, h1']))
        go_wp2_with (at_builtin; refine wpList_own_push rfl _ _ 26 rfl w.heap.size 4 i0 _ 1 Tryd.underlying26 hi hz0 hz1 hz2 rfl _ L rfl w _ _ rfl (by assumption) rfl hlo (by omega) ?_; intro v' w' ho2)
        go_roundw
        case rel => exact ⟨k + 1, by omega, by go_num, by rw [HE.out]; exact ho2⟩
        case measure => simp [intOf]; omega
    · have ho' := ho.out
      have hke : es.take k = es := List.take_of_length_le (by have := HN.out; omega)
      rw [hke] at ho'
      go_wp2
      go_ret
      exact ⟨_, rfl, ho'⟩
end Go.Proofs.YtpboiodigfdajaaDoor
