/-
  Contracts: strconv.AppendQuote and the thin package's. Printed by wip/gen/appmore.py.
-/
import Derived.Test.YthbnglkpkgpojaaDoorAppendQuoted
import Derived.Test.YthbnglkpkgpojaaDoorOwn
namespace Go.Proofs.YthbnglkpkgpojaaDoor
open Go.RowKit
set_option linter.unusedVariables false

theorem sAppendQuote_any (v : Value) (l s : List UInt8) (W0 w : World) (hb : Buf 5 W0.heap.size v l W0 w) (hlen : l.length + 10 * s.length + 12 ≤ 140737488355328) (hT : PrintT W0) (hG : GraphicT W0) (hU : Utf8T W0) : Calls Tryd.prog 50 #[v, .string (str s)] w fun e w' => ∃ v', e = .returned v' ∧ Buf 5 W0.heap.size v' (l ++ quoteL 34 (stP false) (elemsOf s)) W0 w' := by
  have C := Lib.hid (aqw_any W0.heap.size v l s false false W0 w hb hlen rfl hT hG hU)
  rw [stQ_P false] at C
  obtain ⟨L, hL⟩ : ∃ L, L = l ++ quoteL 34 (stP false) (elemsOf s) := ⟨_, rfl⟩
  rw [← hL] at C ⊢
  clear hL hT hG hU hb hlen
  go_enter Tryd.func50, Tryd.ntmps50
  go_wp2_with (go_at_call 66; refine C.out.mono ?_; rintro e w1 ⟨v1, rfl, hw⟩)
  go_ret
  exact ⟨_, rfl, hw⟩
theorem iAppendQuote_any (A : Option Addr) (c : Nat) (l s : List UInt8) (w : World) (hr : Reads w w.heap.size 1 A l.length (bcells l)) (hlen : l.length + 10 * s.length + 12 ≤ 140737488355328) (hT : PrintT w) (hG : GraphicT w) (hU : Utf8T w) : Calls Tryd.prog 29 #[.slice A l.length c, .string (str s)] w fun e w' => ∃ v', e = .returned v' ∧ Buf 5 w.heap.size v' (l ++ quoteL 34 (stP false) (elemsOf s)) w w' := by
  have C1 := Lib.hid (own_any A c l w hr (by omega))
  have C2 := fun (v : Value) (w1 : World) (hb : Buf 5 w.heap.size v l w w1) => Lib.hid (sAppendQuote_any v l s w w1 hb hlen hT hG hU)
  obtain ⟨L, hL⟩ : ∃ L, L = l ++ quoteL 34 (stP false) (elemsOf s) := ⟨_, rfl⟩
  rw [← hL] at C2 ⊢
  clear hL hT hG hU hr hlen
  go_enter Tryd.func29, Tryd.ntmps29
  go_wp2_with (first | (go_at_call 47; refine C1.out.mono ?_; rintro e w1 ⟨v1, rfl, hb⟩) | (go_at_call 50; refine (C2 _ _ hb).out.mono ?_; rintro e w2 ⟨v2, rfl, hb2⟩))
  go_ret
  exact ⟨_, rfl, hb2⟩
end Go.Proofs.YthbnglkpkgpojaaDoor
