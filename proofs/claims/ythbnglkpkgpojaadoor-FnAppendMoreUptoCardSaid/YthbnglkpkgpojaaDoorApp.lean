/-
  Contracts: AppendUint and AppendInt in every base from 2 to 36: internal/strconv's, strconv's and impl's.
-/
import Derived.Test.YthbnglkpkgpojaaDoorFmt
import Derived.Test.YthbnglkpkgpojaaDoorOwnRow
namespace Go.Proofs.YthbnglkpkgpojaaDoor
set_option maxRecDepth 100000
open Go.RowKit Go.Sort
set_option linter.unusedVariables false
set_option linter.unusedSimpArgs false
theorem bits_any_app (u0 b : Nat) (w : World) (h2 : 2 ≤ b) (h36 : b ≤ 36) (h10 : b ≠ 10) (hT : BruT w) (hu : u0 < 18446744073709551616) (B : Nat) (v : Value) (xs : List Value) (W0 : World) (hown : Own 5 B v xs W0 w) (hlim : xs.length + 65 ≤ 140737488355328) :
    Calls Tryd.prog 79 #[v, .int .u64 u0, .int .i64 b, .bool false, .bool true] w fun e w' => ∃ v', e = .returned (.tuple #[v', .string (str [])]) ∧ Own 5 B v' (xs ++ bcells (digB b u0)) W0 w' := by
  by_cases hp : pow2B b = true
  · obtain ⟨k, hk, hk5⟩ := pow2_of hp
    exact bits_pow_app u0 b w h2 h36 h10 k hk hk5 hT hu B v xs W0 hown hlim
  · exact bits_gen_app u0 b w h2 h36 h10 (by simpa using hp) hu B v xs W0 hown hlim
theorem iAppendUint_any (u b : Nat) (w : World) (h2 : 2 ≤ b) (h36 : b ≤ 36) (hu : u < 18446744073709551616) (W0 : World) (hT : NumT W0) (v : Value) (xs : List Value) (hown : Own 5 W0.heap.size v xs W0 w) (hlim : xs.length + 65 ≤ 140737488355328) :
    Calls Tryd.prog 64 #[v, .int .u64 u, .int .i64 b] w fun e w' => ∃ v', e = .returned v' ∧ Own 5 W0.heap.size v' (xs ++ bcells (digB b u)) W0 w' := by
  have hTw : NumT w := hT.below hown.isBelow
  by_cases h10 : b = 10
  · subst h10
    rw [digB_10]
    refine (Tryd.internal_strconv_AppendUint_10 W0.heap.size xs.length u hu v xs w hown.1 hown.base (by omega) hTw.1).mono ?_
    rintro e w' ⟨v', rfl, h1, h2, _⟩
    refine ⟨v', rfl, ?_, hown.isBelow.trans h2, Nat.le_trans hown.base h2.size⟩
    rw [List.length_append, bcells_length]
    exact h1
  · have C := Lib.hid (bits_any_app u b w h2 h36 h10 hTw.2 hu W0.heap.size v xs W0 hown hlim)
    obtain ⟨L, hL⟩ : ∃ L, L = xs ++ bcells (digB b u) := ⟨_, rfl⟩
    rw [← hL] at C ⊢
    have g : ((b : Int) == 10) = false := by simp; omega
    clear hL hT h10 hTw hown
    go_enter Tryd.func64, Tryd.ntmps64
    go_wp2_with (go_at_call 79; refine C.out.mono ?_; rintro e w' ⟨v', rfl, hw⟩; have HW := Lib.hid hw; clear hw)
    go_ret
    exact ⟨v', rfl, HW.out⟩
theorem sAppendUint_any (u b : Nat) (w : World) (h2 : 2 ≤ b) (h36 : b ≤ 36) (hu : u < 18446744073709551616) (W0 : World) (hT : NumT W0) (v : Value) (xs : List Value) (hown : Own 5 W0.heap.size v xs W0 w) (hlim : xs.length + 65 ≤ 140737488355328) :
    Calls Tryd.prog 48 #[v, .int .u64 u, .int .i64 b] w fun e w' => ∃ v', e = .returned v' ∧ Own 5 W0.heap.size v' (xs ++ bcells (digB b u)) W0 w' := by
  have C := Lib.hid (iAppendUint_any u b w h2 h36 hu W0 hT v xs hown hlim)
  obtain ⟨L, hL⟩ : ∃ L, L = xs ++ bcells (digB b u) := ⟨_, rfl⟩
  rw [← hL] at C ⊢
  clear hL hT hown
  go_enter Tryd.func48, Tryd.ntmps48
  go_wp2_with (go_at_call 64; refine C.out.mono ?_; rintro e w' ⟨v', rfl, hw⟩; have HW := Lib.hid hw; clear hw)
  go_ret
  exact ⟨v', rfl, HW.out⟩
theorem AppendUint_any (u b : Nat) (A : Option Addr) (c : Nat) (l : List UInt8) (w : World) (h2 : 2 ≤ b) (h36 : b ≤ 36) (hu : u < 18446744073709551616) (hT : NumT w) (hr : Reads w w.heap.size 1 A l.length (bcells l)) (hlim : l.length + 65 ≤ 140737488355328) :
    Calls Tryd.prog 27 #[.slice A l.length c, .int .u64 u, .int .i64 b] w fun e w' => ∃ v', e = .returned v' ∧ Own 5 w.heap.size v' (bcells (l ++ digB b u)) w w' := by
  have C := Lib.hid (own_row A c l w hr (by omega))
  have D := Lib.hid fun wx v ho => sAppendUint_any u b wx h2 h36 hu w hT v (bcells l) ho (by rw [bcells_length]; exact hlim)
  rw [← bcells_append] at D
  obtain ⟨L, hL⟩ : ∃ L, L = bcells (l ++ digB b u) := ⟨_, rfl⟩
  obtain ⟨M, hM⟩ : ∃ M, M = bcells l := ⟨_, rfl⟩
  rw [← hL] at D ⊢
  rw [← hM] at C D
  clear hL hM hT hr
  go_enter Tryd.func27, Tryd.ntmps27
  go_wp2_with (first
    | (go_at_call 47; refine C.out.mono ?_; rintro e w1 ⟨v1, rfl, ho1⟩; have HO := Lib.hid ho1; clear ho1)
    | (go_at_call 48; refine (D.out _ _ HO.out).mono ?_; rintro e w' ⟨v', rfl, hw⟩; have HW := Lib.hid hw; clear hw))
  go_ret
  exact ⟨v', rfl, HW.out⟩
theorem iAppendInt_any (i : Int) (b : Nat) (w : World) (h2 : 2 ≤ b) (h36 : b ≤ 36) (h0 : -9223372036854775808 ≤ i) (h1 : i ≤ 9223372036854775807) (W0 : World) (hT : NumT W0) (v : Value) (xs : List Value) (hown : Own 5 W0.heap.size v xs W0 w) (hlim : xs.length + 66 ≤ 140737488355328) :
    Calls Tryd.prog 63 #[v, .int .i64 i, .int .i64 b] w fun e w' => ∃ v', e = .returned v' ∧ Own 5 W0.heap.size v' (xs ++ bcells (fmtI b i)) W0 w' := by
  by_cases hi : i < 0
  · obtain ⟨i0, hi0, hz0, hz1, hz2⟩ := info_parts byte_info
    have hwr : IntKind.u64.wrap i = i + 18446744073709551616 := by rw [IntKind.wrap_u64]; omega
    have hwn : IntKind.u64.wrap (-(i + 18446744073709551616)) = -i := by rw [IntKind.wrap_u64]; omega
    have D := fun wx v ho => iAppendUint_any i.natAbs b wx h2 h36 (by omega) W0 hT v (xs ++ [.int .u8 45]) ho (by rw [List.length_append]; exact hlim)
    rw [show ((i.natAbs : Nat) : Int) = -i by omega, show xs ++ [.int .u8 45] ++ bcells (digB b i.natAbs) = xs ++ bcells (fmtI b i) by rw [fmtI, if_pos hi, List.append_assoc]; rfl] at D
    have HD := Lib.hid D
    have HO := Lib.hid hown
    have hd : decide (i < 0) = true := by simpa using hi
    obtain ⟨L, hL⟩ : ∃ L, L = xs ++ bcells (fmtI b i) := ⟨_, rfl⟩
    rw [← hL] at HD ⊢
    clear hL hT hown D
    go_enter Tryd.func63, Tryd.ntmps63
    go_wp2_with (first
      | (at_builtin; refine wpList_own_push rfl _ _ 39 rfl W0.heap.size 5 i0 _ 1 Tryd.underlying39 hi0 hz0 hz1 hz2 rfl v xs rfl W0 w (.int .u8 45) rfl HO.out rfl (by omega) (by omega) ?_; intro v1 w1 ho1; have HO1 := Lib.hid ho1; clear ho1)
      | (go_at_call 64; refine (HD.out _ _ HO1.out).mono ?_; rintro e w' ⟨v', rfl, hw⟩; have HW := Lib.hid hw; clear hw))
    go_ret
    exact ⟨v', rfl, HW.out⟩
  · have hwr : IntKind.u64.wrap i = i := by rw [IntKind.wrap_u64]; omega
    have C := iAppendUint_any i.toNat b w h2 h36 (by omega) W0 hT v xs hown (by omega)
    rw [show ((i.toNat : Nat) : Int) = i by omega, show digB b i.toNat = fmtI b i by rw [fmtI, if_neg hi]] at C
    have HC := Lib.hid C
    have hd : decide (i < 0) = false := by simp; omega
    obtain ⟨L, hL⟩ : ∃ L, L = xs ++ bcells (fmtI b i) := ⟨_, rfl⟩
    rw [← hL] at HC ⊢
    clear hL hT hown C
    go_enter Tryd.func63, Tryd.ntmps63
    go_wp2_with (go_at_call 64; refine HC.out.mono ?_; rintro e w' ⟨v', rfl, hw⟩; have HW := Lib.hid hw; clear hw)
    go_ret
    exact ⟨v', rfl, HW.out⟩
theorem sAppendInt_any (i : Int) (b : Nat) (w : World) (h2 : 2 ≤ b) (h36 : b ≤ 36) (h0 : -9223372036854775808 ≤ i) (h1 : i ≤ 9223372036854775807) (W0 : World) (hT : NumT W0) (v : Value) (xs : List Value) (hown : Own 5 W0.heap.size v xs W0 w) (hlim : xs.length + 66 ≤ 140737488355328) :
    Calls Tryd.prog 46 #[v, .int .i64 i, .int .i64 b] w fun e w' => ∃ v', e = .returned v' ∧ Own 5 W0.heap.size v' (xs ++ bcells (fmtI b i)) W0 w' := by
  have C := Lib.hid (iAppendInt_any i b w h2 h36 h0 h1 W0 hT v xs hown hlim)
  obtain ⟨L, hL⟩ : ∃ L, L = xs ++ bcells (fmtI b i) := ⟨_, rfl⟩
  rw [← hL] at C ⊢
  clear hL hT hown
  go_enter Tryd.func46, Tryd.ntmps46
  go_wp2_with (go_at_call 63; refine C.out.mono ?_; rintro e w' ⟨v', rfl, hw⟩; have HW := Lib.hid hw; clear hw)
  go_ret
  exact ⟨v', rfl, HW.out⟩
theorem AppendInt_any (i : Int) (b : Nat) (A : Option Addr) (c : Nat) (l : List UInt8) (w : World) (h2 : 2 ≤ b) (h36 : b ≤ 36) (h0 : -9223372036854775808 ≤ i) (h1 : i ≤ 9223372036854775807) (hT : NumT w) (hr : Reads w w.heap.size 1 A l.length (bcells l)) (hlim : l.length + 66 ≤ 140737488355328) :
    Calls Tryd.prog 26 #[.slice A l.length c, .int .i64 i, .int .i64 b] w fun e w' => ∃ v', e = .returned v' ∧ Own 5 w.heap.size v' (bcells (l ++ fmtI b i)) w w' := by
  have C := Lib.hid (own_row A c l w hr (by omega))
  have D := Lib.hid fun wx v ho => sAppendInt_any i b wx h2 h36 h0 h1 w hT v (bcells l) ho (by rw [bcells_length]; exact hlim)
  rw [← bcells_append] at D
  obtain ⟨L, hL⟩ : ∃ L, L = bcells (l ++ fmtI b i) := ⟨_, rfl⟩
  obtain ⟨M, hM⟩ : ∃ M, M = bcells l := ⟨_, rfl⟩
  rw [← hL] at D ⊢
  rw [← hM] at C D
  clear hL hM hT hr
  go_enter Tryd.func26, Tryd.ntmps26
  go_wp2_with (first
    | (go_at_call 47; refine C.out.mono ?_; rintro e w1 ⟨v1, rfl, ho1⟩; have HO := Lib.hid ho1; clear ho1)
    | (go_at_call 46; refine (D.out _ _ HO.out).mono ?_; rintro e w' ⟨v', rfl, hw⟩; have HW := Lib.hid hw; clear hw))
  go_ret
  exact ⟨v', rfl, HW.out⟩
end Go.Proofs.YthbnglkpkgpojaaDoor
