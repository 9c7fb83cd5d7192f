/-
  The walk of laws.FnAppendBool: it returns true.
-/
import Derived.Test.YtmkgcoddpmcfpaaBoolText
import Derived.Deep.RegionWith
namespace Go.Proofs.Ytmkgcoddpmcfpaa.fnAppendBool
open Go.RowKit
theorem xformat_any (b : Bool) (w : World) : Calls Try.prog 6 #[.bool b] w fun e w' => e = .returned (.string (str (boolText b))) ∧ w = w' := by
  cases b
  all_goals
    go_enter Try.func6, Try.ntmps6
    go_wp2
    go_ret
    exact ⟨rfl, rfl⟩
set_option maxHeartbeats 1000000 in
theorem walk (w : World) (A : Option Addr) (c : Nat) (l : List UInt8) (hr : Reads w w.heap.size 1 A l.length (bcells l)) (hl : l.length ≤ 140737488351232) (b : Bool) :
    Calls Try.prog 4 #[.slice A l.length c, .bool b] w fun e w' => e = .returned (.bool true) ∧ Below w.heap.size w w' := by
  have hcv : ∀ wx : World, Below w.heap.size w wx → (convert 24 9 (.slice A l.length c)).run Try.prog wx = .ok (.string (str l)) wx :=
    fun wx hb => run_convert_reads (P := Try.prog) wx 24 5 9 Try.underlying24 Try.underlying5 Try.underlying9 c (hr.below hb)
  obtain ⟨L, hL⟩ : ∃ L, L = l ++ boolText b := ⟨_, rfl⟩
  have C1 := Lib.hid (show Calls Try.prog 7 #[.slice A l.length c, .bool b] w.drew fun e w' => ∃ v', e = .returned v' ∧ Buf 5 w.heap.size v' L w w' from
    (xappendBool_any A c l b w.drew (hr.drew) (by omega)).mono fun e w' ⟨v', h1, h2⟩ => ⟨v', h1, by rw [hL]; exact Buf.since h2 ((Below.refl _ _).drew)⟩)
  have HL := Lib.hid hL; clear hL
  have hcv0 := hcv w.drew ((Below.refl _ _).drew)
  have hsum : (str l).size + (str (boolText b)).size ≤ 9223372036854775807 := by have := boolText_le b; rw [size_str, size_str]; omega
  go_enter Try.func4, Try.ntmps4
  go_wp2_with fail
  go_region_with (first
    | (go_at_call 7; refine C1.out.mono ?_; rintro e w1 ⟨v1, rfl, hb⟩; obtain ⟨A1, c1, hv1, _, _, hr1⟩ := hb.form; rw [hv1]; have hcv1 := hcv w1 hb.isBelow; have hcv2 := run_convert_reads (P := Try.prog) w1 24 5 9 Try.underlying24 Try.underlying5 Try.underlying9 c1 hr1)
    | (go_at_call 6; refine (xformat_any b _).mono ?_; rintro e w' ⟨rfl, rfl⟩))
  all_goals
    have he : str L = str l ++ str (boolText b) := by rw [HL.out, str_append]
    go_wp2
    go_ret
    exact ⟨by rw [he]; simp; rfl, hb.isBelow⟩
end Go.Proofs.Ytmkgcoddpmcfpaa.fnAppendBool
