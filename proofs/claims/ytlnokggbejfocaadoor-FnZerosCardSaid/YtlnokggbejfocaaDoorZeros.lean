/-
  Contract: laws.zeros is so many zeros.
-/
import Derived.Test.YtlnokggbejfocaaDoorByteInfo
import Derived.Test.YtlnokggbejfocaaDoorPlainNum
import Derived.Deep.OwnRows
import Derived.Lib.ItoaMem
namespace Go.Proofs.YtlnokggbejfocaaDoor
open Go.RowKit
set_option linter.unusedVariables false
theorem zeros_step {cur : Array Value} {n i : Nat} (hs : cur.size = n) (hi : i < n) (h : cur.toList.take i = bcells (List.replicate i 48)) : (cur.setIfInBounds i (.int .u8 48)).size = n ∧ (cur.setIfInBounds i (.int .u8 48)).toList.take (i + 1) = bcells (List.replicate (i + 1) 48) := by
  refine ⟨by simpa using hs, ?_⟩
  rw [Array.toList_setIfInBounds, List.take_add_one, List.take_set_of_le (Nat.le_refl _), h, List.getElem?_set_self (by simpa [hs] using hi), List.replicate_succ', bcells_append]
  rfl
theorem zeros_cell (w : World) (cur : Array Value) (i : Nat) (T : TypeId) (h : i < cur.size) : ∃ x, (w.alloc (.cells cur T)).cell? ⟨w.heap.size, i, none⟩ = some x ∧ (w.alloc (.cells cur T)).frozen? ⟨w.heap.size, i, none⟩ = false :=
  ⟨cur[i], by rw [World.cell?_alloc_new]; simp [h], World.frozen?_alloc_new _ _ _ _⟩
set_option maxHeartbeats 1000000 in
set_option maxRecDepth 100000 in
theorem zeros_any (n : Nat) (w : World) (hn : n ≤ 140737488355328) :
    Calls Tryd.prog 20 #[.int .i64 n] w fun e w' => e = .returned (.string (str (List.replicate n 48))) ∧ Below w.heap.size w w' := by
  have hmk := run_make_row' (P := Tryd.prog) 38 5 (.int .u8 0) 1 Tryd.underlying38 byte_info rfl .i64 .i64 n (by omega) (by omega) w
  have hms : (madeCells #[Value.int .u8 0] n).size = n := by simp [madeCells]
  obtain ⟨cur0, hc0⟩ : ∃ c, c = madeCells #[Value.int .u8 0] n := ⟨_, rfl⟩
  rw [← hc0] at hmk hms
  have HMS := Lib.hid hms
  clear hc0 hms
  go_enter Tryd.func20, Tryd.ntmps20
  go_wp2
  clear hmk
  go_loopw [4, 9] (fun _ vi wr => ∃ (i : Nat) (cur : Array Value), vi = .int .i64 i ∧ i ≤ n ∧ wr = w.alloc (.cells cur 5) ∧ Hid (cur.size = n) ∧ Hid (cur.toList.take i = bcells (List.replicate i 48))) (fun _ vi _ => n - (intOf vi).toNat)
  case atStart => exact ⟨0, cur0, rfl, Nat.zero_le _, rfl, HMS.out, by rfl⟩
  case round =>
    obtain ⟨i, cur, rfl, hin, rfl, hs, ht⟩ := hrel
    by_cases hlt : i < n
    · obtain ⟨x, hcx, hfx⟩ := zeros_cell w cur i 5 (by rw [hs.out]; exact hlt)
      have hst := Lib.hid (zeros_step hs.out hlt ht.out)
      go_wp2
      go_roundw
      case rel => exact ⟨i + 1, _, by go_num, by omega, rfl, hst.out.1, hst.out.2⟩
      case measure => simp [intOf]; omega
    · obtain rfl : i = n := by omega
      have hR : Reads (w.alloc (.cells cur 5)) (w.heap.size + 1) 1 (some ⟨w.heap.size, 0, none⟩) (List.replicate i (48 : UInt8)).length (bcells (List.replicate i 48)) := by
        refine ⟨by simp [bcells], fun _ => ⟨_, rfl, by simp, fun j u hu => ?_⟩⟩
        have hj : j < i := by
          rcases Nat.lt_or_ge j i with h | h
          · exact h
          · rw [List.getElem?_eq_none (by simpa [bcells] using h)] at hu; cases hu
        rw [← ht.out, List.getElem?_take_of_lt hj] at hu
        rw [Lib.add_plain, Nat.zero_add, World.cell?_alloc_new]
        simpa using hu
      have hcv := run_convert_reads (P := Tryd.prog) _ 38 5 9 Tryd.underlying38 Tryd.underlying5 Tryd.underlying9 i hR
      rw [List.length_replicate] at hcv
      obtain ⟨L, hL⟩ : ∃ L, L = List.replicate i (48 : UInt8) := ⟨_, rfl⟩
      rw [← hL] at hcv
      have HL := Lib.hid hL
      clear hR hL
      go_wp2
      go_ret
      exact ⟨by rw [← HL.out]; rfl, (Below.refl _ _).alloc (Nat.le_refl _) _⟩
end Go.Proofs.YtlnokggbejfocaaDoor
