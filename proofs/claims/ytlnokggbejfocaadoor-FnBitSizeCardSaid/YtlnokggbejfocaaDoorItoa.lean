/-
  Contracts: strconv.Itoa and impl.Itoa, over the kit's for base 10.
-/
import Derived.Test.YtlnokggbejfocaaDoorNumTab
namespace Go.Proofs.YtlnokggbejfocaaDoor
set_option maxRecDepth 100000
open Go.RowKit
theorem sItoa_any (n : Int) (w : World) (h0 : -9223372036854775808 ≤ n) (h1 : n ≤ 9223372036854775807) (hT : Pow10T w) :
    Calls Tryd.prog 31 #[.int .i64 n] w fun e w' => e = .returned (.string (str (fmtI 10 n))) ∧ Below w.heap.size w w' :=
  (Tryd.strconv_Itoa n h0 h1 w hT).mono fun e w' ⟨h, k, os, hw⟩ => ⟨by rw [h, fmtI_10]; rfl, by rw [hw]; exact Lib.below_grow _ w (Nat.le_refl _) k os⟩
theorem iItoa_any (n : Int) (w : World) (h0 : -9223372036854775808 ≤ n) (h1 : n ≤ 9223372036854775807) (hT : Pow10T w) :
    Calls Tryd.prog 22 #[.int .i64 n] w fun e w' => e = .returned (.string (str (fmtI 10 n))) ∧ Below w.heap.size w w' := by
  have C := Lib.hid (sItoa_any n w h0 h1 hT)
  obtain ⟨L, hL⟩ : ∃ L, L = fmtI 10 n := ⟨_, rfl⟩
  rw [← hL] at C ⊢
  clear hL hT
  go_enter Tryd.func22, Tryd.ntmps22
  go_wp2_with (go_at_call 31; refine C.out.mono ?_; rintro e w1 ⟨rfl, hw⟩)
  go_ret
  exact ⟨rfl, hw⟩
end Go.Proofs.YtlnokggbejfocaaDoor
