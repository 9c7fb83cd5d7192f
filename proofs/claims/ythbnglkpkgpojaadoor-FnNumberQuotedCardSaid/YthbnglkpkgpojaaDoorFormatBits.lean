/-
  Contracts: internal/strconv.formatBits writes the digits of a number in a base other than 10.
-/
import Derived.Test.YthbnglkpkgpojaaDoorNumTab
import Derived.Lib.ItoaWalk
import Derived.RegionTactic
namespace Go.Proofs.YthbnglkpkgpojaaDoor
set_option maxRecDepth 100000
open Go.RowKit
set_option linter.unusedVariables false
set_option linter.unusedSimpArgs false
theorem dgc_at (i : Nat) (h : i < Lib.digits36.size) : Lib.digits36[i]'h = dgc i := by
  have h36 : i < 36 := by rw [Lib.digits36_size] at h; exact h
  have := digits36_at_fin ⟨i, h36⟩
  simp only [List.getElem?_eq_some_iff] at this
  obtain ⟨h1, h2⟩ := this
  rw [← h2]; rfl
theorem idx_digits {P : Program} (t : TypeId) (ht : P.underlying t = some .string) (k : IntKind) (z : Int) (i : Nat) (hz : z = (i : Int)) (hi : i < 36) (w : World) :
    (Instr.index t (.string Lib.digits36) (.int k z)).run P w = .ok (.int .u8 ((dgc i).toNat : Int)) w := by
  subst hz
  rw [run_index_string w t Lib.digits36 k _ ht, dif_pos ⟨by omega, by rw [Lib.digits36_size]; omega⟩]
  have e : ((i : Int)).toNat = i := by omega
  simp only [e]
  rw [dgc_at i (by rw [Lib.digits36_size]; exact hi)]
/-- what the array holds behind some rounds -/
structure Laid (b u0 u i : Nat) (cur : Array Value) (D : List UInt8) : Prop where
  size : cur.size = 65
  place : D.length + i = 65
  rest : D ++ revB b u = revB b u0
  cells : cur.toList.drop i = bcells D.reverse
theorem Laid.start {b u0 : Nat} (cur : Array Value) (h : cur.size = 65) : Laid b u0 u0 65 cur [] := ⟨h, rfl, rfl, by rw [List.drop_of_length_le (by simp [h])]; rfl⟩
theorem Laid.two {b u0 u i cur D} (h : Laid b u0 u i cur D) (h2 : 2 ≤ b) (hu : u0 < 18446744073709551616) : 2 ≤ i ∧ i ≤ 65 := by
  have h1 := revB_length_64 h2 hu
  rw [← h.rest, List.length_append] at h1
  have := List.length_pos_iff.2 (revB_ne (b := b) (u := u))
  have := h.place
  omega
theorem drop_set_eq {α : Type} (l : List α) (k : Nat) (x : α) (h : k < l.length) : (l.set k x).drop k = x :: l.drop (k + 1) := by
  rw [List.drop_eq_getElem_cons (by simpa using h), List.drop_set_of_lt (by omega)]
  simp
theorem Laid.step {b u0 u m cur D} (h : Laid b u0 u (m + 1) cur D) (h2 : 2 ≤ b) (hu : b ≤ u) : Laid b u0 (u / b) m (cur.setIfInBounds m (.int .u8 ((dgc (u % b)).toNat : Int))) (D ++ [dgc (u % b)]) := by
  have hp := h.place
  refine ⟨by simpa using h.size, by simp; omega, ?_, ?_⟩
  · rw [← h.rest, revB_big h2 hu]; simp
  · rw [Array.toList_setIfInBounds, drop_set_eq _ _ _ (by simp [h.size]; omega), h.cells]; simp [bcells]
theorem Laid.last {b u0 u m cur D} (h : Laid b u0 u (m + 1) cur D) (hu : u < b) : m + (digB b u0).length = 65 ∧ (cur.setIfInBounds m (.int .u8 ((dgc u).toNat : Int))).size = 65 ∧ (cur.setIfInBounds m (.int .u8 ((dgc u).toNat : Int))).toList.drop m = bcells (digB b u0) := by
  have hp := h.place
  have hr := h.rest
  rw [revB_small hu] at hr
  refine ⟨by rw [digB, ← hr]; simp; omega, by simpa using h.size, ?_⟩
  rw [Array.toList_setIfInBounds, drop_set_eq _ _ _ (by simp [h.size]; omega), h.cells, digB, ← hr]; simp [bcells]
def pow2B (b : Nat) : Bool := b == 2 || b == 4 || b == 8 || b == 16 || b == 32
theorem pow2_fin : ∀ b : Fin 37, 2 ≤ b.val → (bits BinOp.and IntKind.i64 ((b.val : Nat) : Int) (((b.val : Nat) : Int) - 1) == 0) = pow2B b.val := by decide +kernel
theorem isPow2_any (b : Nat) (w : World) (h2 : 2 ≤ b) (h36 : b ≤ 36) : Calls Tryd.prog 95 #[.int .i64 b] w fun e w' => e = .returned (.bool (pow2B b)) ∧ w = w' := by
  have H := Lib.hid (pow2_fin ⟨b, by omega⟩ h2)
  go_enter Tryd.func95, Tryd.ntmps95
  go_wp2
  go_ret
  refine ⟨?_, rfl⟩
  rw [← H.out]; rfl
/-- the table of de Bruijn's sequence -/
def dbTab : List Int := [0, 1, 56, 2, 57, 49, 28, 3, 61, 58, 42, 50, 38, 29, 17, 4, 62, 47, 59, 36, 45, 43, 51, 22, 53, 39, 33, 30, 24, 18, 12, 5, 63, 55, 48, 27, 60, 41, 37, 16, 46, 35, 44, 21, 52, 32, 23, 11, 54, 26, 40, 15, 34, 20, 31, 10, 25, 14, 19, 9, 13, 8, 7, 6]
def BruT (w : World) : Prop := Lib.TabIs Tryd.prog w "math/bits.deBruijn64tab" .u8 dbTab
theorem bru_data : (Rows.laid_math_bits_deBruijn64tab : DataW Unit) = Lib.tabData .u8 dbTab := by kernel_rfl
theorem bruT_of {laid : List (String × DataW Unit)} {w : World} (h : laidMetH Tryd.prog laid w) (hp : (laid.all fun x => x.2.handleName?.isNone) = true) (hm : ("math/bits.deBruijn64tab", Rows.laid_math_bits_deBruijn64tab) ∈ laid) : BruT w :=
  tabIs_of_reads (g := 12) (by kernel_rfl) (t := 116) (n := 64) (by kernel_rfl) (by kernel_rfl) (e := 5) Tryd.underlying5 (by kernel_rfl) (by kernel_rfl) (by rw [← bru_data]; exact reads_of h hp hm)
theorem BruT.below {w w' : World} (h : BruT w) (hb : Below w.heap.size w w') : BruT w' := Lib.tabBelow_of_tabIs h w' hb
theorem BruT.at_ {w : World} (h : BruT w) (i : Nat) (hi : i < 64) : w.cell? ⟨12, i, none⟩ = some (.int .u8 (dbTab.getD i 0)) := Lib.TabIs.cell h (by kernel_rfl) i hi
theorem tz_any (k : Nat) (w : World) (hk : k = 1 ∨ k = 2 ∨ k = 3 ∨ k = 4 ∨ k = 5) (hT : BruT w) : Calls Tryd.prog 103 #[.int .u64 (2 ^ k : Nat)] w fun e w' => e = .returned (.int .i64 k) ∧ w = w' := by
  rcases hk with rfl | rfl | rfl | rfl | rfl
  · have hc : w.cell? ⟨12, 1, none⟩ = some (.int .u8 1) := hT.at_ 1 (by decide)
    have he : IntKind.u64.wrap (bits BinOp.and IntKind.u64 2 (IntKind.u64.wrap (-2)) * 285870213051353865) / 288230376151711744 = 1 := by decide +kernel
    clear hT
    go_enter Tryd.func103, Tryd.ntmps103
    go_wp2
    go_ret
    exact ⟨rfl, rfl⟩
  · have hc : w.cell? ⟨12, 3, none⟩ = some (.int .u8 2) := hT.at_ 3 (by decide)
    have he : IntKind.u64.wrap (bits BinOp.and IntKind.u64 4 (IntKind.u64.wrap (-4)) * 285870213051353865) / 288230376151711744 = 3 := by decide +kernel
    clear hT
    go_enter Tryd.func103, Tryd.ntmps103
    go_wp2
    go_ret
    exact ⟨rfl, rfl⟩
  · have hc : w.cell? ⟨12, 7, none⟩ = some (.int .u8 3) := hT.at_ 7 (by decide)
    have he : IntKind.u64.wrap (bits BinOp.and IntKind.u64 8 (IntKind.u64.wrap (-8)) * 285870213051353865) / 288230376151711744 = 7 := by decide +kernel
    clear hT
    go_enter Tryd.func103, Tryd.ntmps103
    go_wp2
    go_ret
    exact ⟨rfl, rfl⟩
  · have hc : w.cell? ⟨12, 15, none⟩ = some (.int .u8 4) := hT.at_ 15 (by decide)
    have he : IntKind.u64.wrap (bits BinOp.and IntKind.u64 16 (IntKind.u64.wrap (-16)) * 285870213051353865) / 288230376151711744 = 15 := by decide +kernel
    clear hT
    go_enter Tryd.func103, Tryd.ntmps103
    go_wp2
    go_ret
    exact ⟨rfl, rfl⟩
  · have hc : w.cell? ⟨12, 31, none⟩ = some (.int .u8 5) := hT.at_ 31 (by decide)
    have he : IntKind.u64.wrap (bits BinOp.and IntKind.u64 32 (IntKind.u64.wrap (-32)) * 285870213051353865) / 288230376151711744 = 31 := by decide +kernel
    clear hT
    go_enter Tryd.func103, Tryd.ntmps103
    go_wp2
    go_ret
    exact ⟨rfl, rfl⟩
theorem tz0_any (k : Nat) (w : World) (hk : k = 1 ∨ k = 2 ∨ k = 3 ∨ k = 4 ∨ k = 5) (hT : BruT w) : Calls Tryd.prog 96 #[.int .u64 (2 ^ k : Nat)] w fun e w' => e = .returned (.int .i64 k) ∧ w = w' := by
  have C := Lib.hid (tz_any k w hk hT)
  clear hT hk
  obtain ⟨x, hx⟩ : ∃ x : Int, x = ((2 ^ k : Nat) : Int) := ⟨_, rfl⟩
  rw [← hx] at C ⊢
  clear hx
  go_enter Tryd.func96, Tryd.ntmps96
  go_wp2_with (go_at_call 103; refine C.out.mono ?_; rintro e w1 ⟨rfl, rfl⟩)
  go_ret
  exact ⟨rfl, rfl⟩
end Go.Proofs.YthbnglkpkgpojaaDoor
