/-
  The walk of laws.FnUnwrapped: it returns true.
-/
import Derived.Test.YtmkgcoddpmcfpaaDoorNumErr
namespace Go.Proofs.YtmkgcoddpmcfpaaDoor.fnUnwrapped
open Go.RowKit
theorem ximpl (w : World) (aS aR : Addr) (hE : ErrT w aS aR) (fn num : ByteArray) (k : Int) :
    Calls Tryd.prog 6 #[.string fn, .string num, .int .i64 k] w fun e w' => e = .returned (.int .i64 (if k = 1 then 1 else 2)) ∧ Below w.heap.size w w' := by
  have hal : ∀ o, ErrT (w.alloc o) aS aR := fun o => hE.below ((Below.refl _ _).alloc (Nat.le_refl _) _)
  have hcl : ∀ x y z : Value, (w.alloc (.cells #[x, y, z] 33)).cell? ⟨w.heap.size, 2, none⟩ = some z := fun x y z => by simp
  by_cases h : k = 1
  · subst h
    have C1 := Lib.hid (numError_syn w aS aR hE fn num 1 rfl)
    rw [if_pos rfl]
    clear hE
    go_enter Tryd.func6, Tryd.ntmps6
    go_wp2_with fail
    refine C1.out.mono ?_
    rintro e w1 ⟨rfl, rfl⟩
    go_wp2_with fail
    refine (unwrap_any _ w.heap.size _ 42 (.pointer (some aS)) (hcl _ _ _) rfl).mono ?_
    rintro e w1 ⟨rfl, rfl⟩
    go_wp2_with fail
    refine (kind_syn _ aS aR (hal _)).mono ?_
    rintro e w1 ⟨rfl, rfl⟩
    go_wp2
    go_ret
    exact ⟨rfl, (Below.refl _ _).alloc (Nat.le_refl _) _⟩
  · have C1 := Lib.hid (numError_rng w aS aR hE fn num k h)
    rw [if_neg h]
    clear hE
    go_enter Tryd.func6, Tryd.ntmps6
    go_wp2_with fail
    refine C1.out.mono ?_
    rintro e w1 ⟨rfl, rfl⟩
    go_wp2_with fail
    refine (unwrap_any _ w.heap.size _ 42 (.pointer (some aR)) (hcl _ _ _) rfl).mono ?_
    rintro e w1 ⟨rfl, rfl⟩
    go_wp2_with fail
    refine (kind_rng _ aS aR (hal _)).mono ?_
    rintro e w1 ⟨rfl, rfl⟩
    go_wp2
    go_ret
    exact ⟨rfl, (Below.refl _ _).alloc (Nat.le_refl _) _⟩
theorem walk (w : World) (fn : ByteArray) (_h1 : fn.size ≤ 140737488351232) (num : ByteArray) (_h2 : num.size ≤ 140737488351232) (k : Int) (_hk : (Lit.int .i64 k).wf = true) (hL : laidMetH Tryd.prog Rows.fnUnwrappedRow.laid w) :
    Calls Tryd.prog 3 #[.string fn, .string num, .int .i64 k] w fun e w' => e = .returned (.bool true) ∧ Below w.heap.size w w' := by
  obtain ⟨aS, aR, hE⟩ := errT_of hL (by kernel_rfl) (by simp [Rows.fnUnwrappedRow, Rows.laid_strconv_ErrSyntax, synText]) (by simp [Rows.fnUnwrappedRow, Rows.laid_strconv_ErrRange, rngText])
  have C := Lib.hid (ximpl w aS aR hE fn num k)
  clear hL hE
  by_cases h : k = 1
  · have hb : (k == 1) = true := by simpa using h
    rw [if_pos h] at C
    clear h
    go_enter Tryd.func3, Tryd.ntmps3
    go_wp2_with (go_at_call 6; refine C.out.mono ?_; rintro e w1 ⟨rfl, hw⟩)
    go_ret
    exact ⟨rfl, hw⟩
  · have hb : (k == 1) = false := by simpa using h
    rw [if_neg h] at C
    clear h
    go_enter Tryd.func3, Tryd.ntmps3
    go_wp2_with (go_at_call 6; refine C.out.mono ?_; rintro e w1 ⟨rfl, hw⟩)
    go_ret
    exact ⟨rfl, hw⟩
end Go.Proofs.YtmkgcoddpmcfpaaDoor.fnUnwrapped
