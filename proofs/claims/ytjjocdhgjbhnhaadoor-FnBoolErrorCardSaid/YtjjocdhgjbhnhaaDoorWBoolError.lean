/-
  The walk of laws.FnBoolError: it returns true.
-/
import Derived.Test.YtjjocdhgjbhnhaaDoorParseBool
import Derived.Test.YtjjocdhgjbhnhaaDoorTells
namespace Go.Proofs.YtjjocdhgjbhnhaaDoor.fnBoolError
open Go.RowKit
set_option maxRecDepth 100000
set_option linter.unusedVariables false
theorem walk (w : World) (s : ByteArray) (hs : s.size ≤ 140737488351232) (hL : laidMetH Tryd.prog Rows.fnBoolErrorRow.laid w) :
    Calls Tryd.prog 3 #[.string s] w fun e w' => e = .returned (.bool true) ∧ Below w.heap.size w w' := by
  obtain ⟨aS, aR, hE⟩ := errT_of hL (by kernel_rfl) (by simp [Rows.fnBoolErrorRow, Rows.laid_strconv_ErrSyntax, synText]) (by simp [Rows.fnBoolErrorRow, Rows.laid_strconv_ErrRange, rngText])
  obtain ⟨l, rfl⟩ : ∃ l, s = str l := ⟨s.data.toList, (str_toList s).symm⟩
  rw [size_str] at hs
  have C := Lib.hid (specParseBool_any l w)
  clear hL
  cases hok : pbOk l
  · have D := Lib.hid fun wx (hb : Below w.heap.size w wx) => ParseBool_err l wx hok aS aR (hE.below hb) (by omega)
    have E := Lib.hid fun wx => tells_same 1 rfl pbText l wx
    rw [hok] at C
    obtain ⟨v, hv⟩ : ∃ v, v = pbVal l := ⟨_, rfl⟩
    rw [← hv] at C
    clear hE hok hv
    go_enter Tryd.func3, Tryd.ntmps3
    go_wp2_with (first
      | (go_at_call 15; refine C.out.mono ?_; rintro e w1 ⟨rfl, hw1⟩)
      | (go_at_call 16; refine (D.out w1 hw1).mono ?_; rintro e w2 ⟨rfl, hw2⟩; unfold failV)
      | (go_at_call 17; refine (E.out _).mono ?_; rintro e w3 ⟨rfl, hw3⟩))
    go_ret
    exact ⟨rfl, ((hw1.trans (hw2.mono hw1.size)).trans ((Below.refl _ _).alloc (Nat.le_trans hw1.size hw2.size) _)).trans (hw3.mono (by have := hw1.size; have := hw2.size; simp; omega))⟩
  · have D := Lib.hid fun wx (hb : Below w.heap.size w wx) => ParseBool_ok l wx hok
    rw [hok] at C
    obtain ⟨v, hv⟩ : ∃ v, v = pbVal l := ⟨_, rfl⟩
    rw [← hv] at C D
    clear hE hok hv
    go_enter Tryd.func3, Tryd.ntmps3
    go_wp2_with (first
      | (go_at_call 15; refine C.out.mono ?_; rintro e w1 ⟨rfl, hw1⟩)
      | (go_at_call 16; refine (D.out w1 hw1).mono ?_; rintro e w2 ⟨rfl, hw2⟩; unfold failV))
    go_ret
    exact ⟨rfl, (hw1.trans (hw2.mono hw1.size)).trans ((Below.refl _ _).alloc (Nat.le_trans hw1.size hw2.size) _)⟩
end Go.Proofs.YtjjocdhgjbhnhaaDoor.fnBoolError
