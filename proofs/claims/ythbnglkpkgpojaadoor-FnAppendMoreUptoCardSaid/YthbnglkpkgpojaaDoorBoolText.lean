/-
  Contracts: AppendBool appends the text of a bool to a buffer of the call's own.
-/
import Derived.Test.YthbnglkpkgpojaaDoorOwn
namespace Go.Proofs.YthbnglkpkgpojaaDoor
open Go.RowKit
def boolText (b : Bool) : List UInt8 := if b then [116, 114, 117, 101] else [102, 97, 108, 115, 101]
theorem boolText_le (b : Bool) : (boolText b).length ≤ 5 := by cases b <;> decide
set_option maxHeartbeats 400000 in
theorem iappendBool_any (v : Value) (l : List UInt8) (b : Bool) (B : Nat) (W0 w : World) (h : Buf 5 B v l W0 w) (hn : l.length + 5 ≤ 140737488355328) :
    Calls Tryd.prog 65 #[v, .bool b] w fun e w' => ∃ v', e = .returned v' ∧ Buf 5 B v' (l ++ boolText b) W0 w' := by
  obtain ⟨i0, hi0, hz0, hz1, hz2⟩ := info_parts byte_info
  cases b
  all_goals
    go_enter Tryd.func65, Tryd.ntmps65
    go_wp2_with (at_builtin; refine wpList_buf_text rfl _ _ 39 9 rfl B 5 i0 Tryd.underlying39 Tryd.underlying9 hi0 hz0 hz1 hz2 v l rfl W0 (by assumption) _ rfl ?_ ?_; (simp only [List.length_cons, List.length_nil]; omega); intro v1 w1 hb)
    go_ret
    exact ⟨v1, rfl, hb⟩
theorem appendBool_any (v : Value) (l : List UInt8) (b : Bool) (B : Nat) (W0 w : World) (h : Buf 5 B v l W0 w) (hn : l.length + 5 ≤ 140737488355328) :
    Calls Tryd.prog 49 #[v, .bool b] w fun e w' => ∃ v', e = .returned v' ∧ Buf 5 B v' (l ++ boolText b) W0 w' := by
  have C := Lib.hid (iappendBool_any v l b B W0 w h hn)
  go_enter Tryd.func49, Tryd.ntmps49
  go_wp2_with (go_at_call 65; refine C.out.mono ?_; rintro e w1 ⟨v1, rfl, hb⟩)
  go_ret
  exact ⟨v1, rfl, hb⟩
theorem xappendBool_any (A : Option Addr) (c : Nat) (l : List UInt8) (b : Bool) (w : World) (h : Reads w w.heap.size 1 A l.length (bcells l)) (hn : l.length + 5 ≤ 140737488355328) :
    Calls Tryd.prog 28 #[.slice A l.length c, .bool b] w fun e w' => ∃ v', e = .returned v' ∧ Buf 5 w.heap.size v' (l ++ boolText b) w w' := by
  have C1 := Lib.hid (own_any A c l w h (by omega))
  go_enter Tryd.func28, Tryd.ntmps28
  go_wp2_with (first | (go_at_call 47; refine C1.out.mono ?_; rintro e w1 ⟨v1, rfl, hb⟩) | (go_at_call 49; refine (appendBool_any v1 l b w.heap.size w w1 hb hn).mono ?_; rintro e w2 ⟨v2, rfl, hb2⟩))
  go_ret
  exact ⟨v2, rfl, hb2⟩
end Go.Proofs.YthbnglkpkgpojaaDoor
