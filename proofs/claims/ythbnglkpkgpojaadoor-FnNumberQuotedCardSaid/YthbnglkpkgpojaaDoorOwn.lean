/-
  Contracts: impl.own copies a buffer into a row of the call's own; what is read out of such a row by string(..).
-/
import Derived.Test.YthbnglkpkgpojaaDoorRows
import Derived.Test.YthbnglkpkgpojaaDoorByteInfo
import Derived.WalkKit
import Derived.WalkSpells
import Derived.Lib.Hide
import Derived.Laws.BytesArg
namespace Go.Proofs.YthbnglkpkgpojaaDoor
open Go.RowKit
set_option maxHeartbeats 400000 in
theorem own_any (A : Option Addr) (c : Nat) (l : List UInt8) (w : World) (h : Reads w w.heap.size 1 A l.length (bcells l)) (hn : l.length ≤ 140737488355328) :
    Calls Tryd.prog 47 #[.slice A l.length c] w fun e w' => ∃ v, e = .returned v ∧ Buf 5 w.heap.size v l w w' := by
  obtain ⟨i0, hi0, hz0, hz1, hz2⟩ := info_parts byte_info
  have hown : (w.alloc (.cells #[] 5)).ownsRow w.heap.size 5 1 (.slice (some ⟨w.heap.size, 0, none⟩) 0 0) 0 [] :=
    ⟨by simp, .inr ⟨w.heap.size, 0, #[], rfl, Nat.le_refl _, by show (w.heap.push _)[w.heap.size]? = _; simp, by omega, by simp [maxLen], by simp, by simp⟩⟩
  have hown := Lib.hid hown
  go_enter Tryd.func47, Tryd.ntmps47
  go_wp2_with (at_builtin; refine wpList_append_any _ rfl (.tmp 3) (.tmp 4) _ rfl w.heap.size 5 i0 _ 1 1 Tryd.underlying39 hi0 hz0 hz1 hz2 rfl (by omega) (.slice (some ⟨w.heap.size, 0, none⟩) 0 0) 0 [] rfl hown.out w.heap.size A l.length c (bcells l) rfl (h.alloc (Nat.le_refl _) _) (bcells_one l) (by simp only [maxLen]; omega) (by omega) (by simp) ?_; intro v1 w1 hown1 hg1 hat1)
  go_ret
  refine ⟨v1, rfl, World.ownsRowF_of (by simpa using hown1), ((Below.refl _ _).alloc (Nat.le_refl _) _).grown hg1 (by simp) (by simp [Value.ownBlock]), ?_⟩
  have := hg1.size
  simp at this; omega

end Go.Proofs.YthbnglkpkgpojaaDoor
