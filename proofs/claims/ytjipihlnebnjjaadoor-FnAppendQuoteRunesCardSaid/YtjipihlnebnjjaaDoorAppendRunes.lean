/-
  Contracts: the functions that append one quoted character, and those of the thin package over them.
-/
import Derived.Test.YtjipihlnebnjjaaDoorQuoteRunes
namespace Go.Proofs.YtjipihlnebnjjaaDoor
open Go.RowKit
set_option linter.unusedVariables false

theorem sAppendQuoteRune_any (v : Value) (l : List UInt8) (r : Int) (W0 w : World) (hb : Buf 5 W0.heap.size v l W0 w) (hlen : l.length + 12 ≤ 140737488355328) (hT : PrintT W0) (hG : GraphicT W0) : Calls Tryd.prog 43 #[v, .int .i32 r] w fun e w' => ∃ v', e = .returned v' ∧ Buf 5 W0.heap.size v' (l ++ quoteL 39 (stP false) [fixR r]) W0 w' := by
  have C := Lib.hid (aqrw_any W0.heap.size v l r 39 false false W0 w hb hlen rfl hT hG (.inr rfl))
  rw [q39_P false 39 r] at C
  obtain ⟨L, hL⟩ : ∃ L, L = l ++ quoteL 39 (stP false) [fixR r] := ⟨_, rfl⟩
  rw [← hL] at C ⊢
  clear hL hT hG hb hlen
  go_enter Tryd.func43, Tryd.ntmps43
  go_wp2_with (go_at_call 61; refine C.out.mono ?_; rintro e w1 ⟨v1, rfl, hw⟩)
  go_ret
  exact ⟨_, rfl, hw⟩
theorem iAppendQuoteRune_any (A : Option Addr) (c : Nat) (l : List UInt8) (r : Int) (w : World) (hr : Reads w w.heap.size 1 A l.length (bcells l)) (hlen : l.length + 12 ≤ 140737488355328) (hT : PrintT w) (hG : GraphicT w) : Calls Tryd.prog 23 #[.slice A l.length c, .int .i32 r] w fun e w' => ∃ v', e = .returned v' ∧ Buf 5 w.heap.size v' (l ++ quoteL 39 (stP false) [fixR r]) w w' := by
  have C1 := Lib.hid (own_any A c l w hr (by omega))
  have C2 := fun (v : Value) (w1 : World) (hb : Buf 5 w.heap.size v l w w1) => Lib.hid (sAppendQuoteRune_any v l r w w1 hb hlen hT hG)
  obtain ⟨L, hL⟩ : ∃ L, L = l ++ quoteL 39 (stP false) [fixR r] := ⟨_, rfl⟩
  rw [← hL] at C2 ⊢
  clear hL hT hG hr hlen
  go_enter Tryd.func23, Tryd.ntmps23
  go_wp2_with (first | (go_at_call 44; refine C1.out.mono ?_; rintro e w1 ⟨v1, rfl, hb⟩) | (go_at_call 43; refine (C2 _ _ hb).out.mono ?_; rintro e w2 ⟨v2, rfl, hb2⟩))
  go_ret
  exact ⟨_, rfl, hb2⟩
theorem sAppendQuoteRuneToASCII_any (v : Value) (l : List UInt8) (r : Int) (W0 w : World) (hb : Buf 5 W0.heap.size v l W0 w) (hlen : l.length + 12 ≤ 140737488355328) (hT : PrintT W0) (hG : GraphicT W0) : Calls Tryd.prog 45 #[v, .int .i32 r] w fun e w' => ∃ v', e = .returned v' ∧ Buf 5 W0.heap.size v' (l ++ quoteL 39 (stP true) [fixR r]) W0 w' := by
  have C := Lib.hid (aqrw_any W0.heap.size v l r 39 true false W0 w hb hlen rfl hT hG (.inr rfl))
  rw [q39_P true 39 r] at C
  obtain ⟨L, hL⟩ : ∃ L, L = l ++ quoteL 39 (stP true) [fixR r] := ⟨_, rfl⟩
  rw [← hL] at C ⊢
  clear hL hT hG hb hlen
  go_enter Tryd.func45, Tryd.ntmps45
  go_wp2_with (go_at_call 61; refine C.out.mono ?_; rintro e w1 ⟨v1, rfl, hw⟩)
  go_ret
  exact ⟨_, rfl, hw⟩
theorem iAppendQuoteRuneToASCII_any (A : Option Addr) (c : Nat) (l : List UInt8) (r : Int) (w : World) (hr : Reads w w.heap.size 1 A l.length (bcells l)) (hlen : l.length + 12 ≤ 140737488355328) (hT : PrintT w) (hG : GraphicT w) : Calls Tryd.prog 24 #[.slice A l.length c, .int .i32 r] w fun e w' => ∃ v', e = .returned v' ∧ Buf 5 w.heap.size v' (l ++ quoteL 39 (stP true) [fixR r]) w w' := by
  have C1 := Lib.hid (own_any A c l w hr (by omega))
  have C2 := fun (v : Value) (w1 : World) (hb : Buf 5 w.heap.size v l w w1) => Lib.hid (sAppendQuoteRuneToASCII_any v l r w w1 hb hlen hT hG)
  obtain ⟨L, hL⟩ : ∃ L, L = l ++ quoteL 39 (stP true) [fixR r] := ⟨_, rfl⟩
  rw [← hL] at C2 ⊢
  clear hL hT hG hr hlen
  go_enter Tryd.func24, Tryd.ntmps24
  go_wp2_with (first | (go_at_call 44; refine C1.out.mono ?_; rintro e w1 ⟨v1, rfl, hb⟩) | (go_at_call 45; refine (C2 _ _ hb).out.mono ?_; rintro e w2 ⟨v2, rfl, hb2⟩))
  go_ret
  exact ⟨_, rfl, hb2⟩
theorem sAppendQuoteRuneToGraphic_any (v : Value) (l : List UInt8) (r : Int) (W0 w : World) (hb : Buf 5 W0.heap.size v l W0 w) (hlen : l.length + 12 ≤ 140737488355328) (hT : PrintT W0) (hG : GraphicT W0) : Calls Tryd.prog 46 #[v, .int .i32 r] w fun e w' => ∃ v', e = .returned v' ∧ Buf 5 W0.heap.size v' (l ++ quoteL 39 stG [fixR r]) W0 w' := by
  have C := Lib.hid (aqrw_any W0.heap.size v l r 39 false true W0 w hb hlen rfl hT hG (.inr rfl))
  rw [q39_G 39 r] at C
  obtain ⟨L, hL⟩ : ∃ L, L = l ++ quoteL 39 stG [fixR r] := ⟨_, rfl⟩
  rw [← hL] at C ⊢
  clear hL hT hG hb hlen
  go_enter Tryd.func46, Tryd.ntmps46
  go_wp2_with (go_at_call 61; refine C.out.mono ?_; rintro e w1 ⟨v1, rfl, hw⟩)
  go_ret
  exact ⟨_, rfl, hw⟩
theorem iAppendQuoteRuneToGraphic_any (A : Option Addr) (c : Nat) (l : List UInt8) (r : Int) (w : World) (hr : Reads w w.heap.size 1 A l.length (bcells l)) (hlen : l.length + 12 ≤ 140737488355328) (hT : PrintT w) (hG : GraphicT w) : Calls Tryd.prog 25 #[.slice A l.length c, .int .i32 r] w fun e w' => ∃ v', e = .returned v' ∧ Buf 5 w.heap.size v' (l ++ quoteL 39 stG [fixR r]) w w' := by
  have C1 := Lib.hid (own_any A c l w hr (by omega))
  have C2 := fun (v : Value) (w1 : World) (hb : Buf 5 w.heap.size v l w w1) => Lib.hid (sAppendQuoteRuneToGraphic_any v l r w w1 hb hlen hT hG)
  obtain ⟨L, hL⟩ : ∃ L, L = l ++ quoteL 39 stG [fixR r] := ⟨_, rfl⟩
  rw [← hL] at C2 ⊢
  clear hL hT hG hr hlen
  go_enter Tryd.func25, Tryd.ntmps25
  go_wp2_with (first | (go_at_call 44; refine C1.out.mono ?_; rintro e w1 ⟨v1, rfl, hb⟩) | (go_at_call 46; refine (C2 _ _ hb).out.mono ?_; rintro e w2 ⟨v2, rfl, hb2⟩))
  go_ret
  exact ⟨_, rfl, hb2⟩
end Go.Proofs.YtjipihlnebnjjaaDoor
