/-
  Contract: spec.Encode writes what the plain function encL says.
-/
import Derived.Test.YthbnglkpkgpojaaDoorOwn
import Derived.Test.YthbnglkpkgpojaaDoorPlainQuote
import Derived.LoopN
namespace Go.Proofs.YthbnglkpkgpojaaDoor
open Go.RowKit
set_option linter.unusedSimpArgs false
set_option linter.unusedVariables false
theorem reads_new (w : World) (l : List UInt8) : Reads (w.alloc (.cells (bcells l).toArray 5)) (w.heap.size + 1) 1 (some ⟨w.heap.size, 0, none⟩) l.length (bcells l) := by
  refine ⟨by rw [bcells_length]; omega, fun _ => ⟨_, rfl, by simp, fun j u hu => ?_⟩⟩
  have : (⟨w.heap.size, 0, none⟩ : Addr).add j = ⟨w.heap.size, j, none⟩ := by unfold Addr.add; split <;> simp_all
  rw [this, World.cell?_alloc_new]
  simpa using hu
/-- string([]byte{..}) -/
theorem conv_new (w : World) (xs : Array Value) (l : List UInt8) (h : xs = (bcells l).toArray) (n c : Nat) (hn : n = l.length) :
    (convert 39 9 (.slice (some ⟨w.heap.size, 0, none⟩) n c)).run Tryd.prog (w.alloc (.cells xs 5)) = .ok (.string (str l)) (w.alloc (.cells xs 5)) := by
  subst h hn
  exact run_convert_reads (P := Tryd.prog) _ 39 5 9 Tryd.underlying39 Tryd.underlying5 Tryd.underlying9 c (reads_new w l)
theorem b1 {x : Int} (h : 0 ≤ x ∧ x ≤ 255) : Value.int .u8 x = Value.int .u8 ((byteZ x).toNat : Int) := by rw [byteZ_toNat h.1 h.2]
theorem encode_any (r : Int) (w : World) (h0 : 0 ≤ r) (h1 : r ≤ 1114111) : Calls Tryd.prog 13 #[.int .i32 r] w fun e w' => e = .returned (.string (str (encL r))) ∧ Below w.heap.size w w' := by
  by_cases c1 : r < 128
  · have hcv := conv_new w #[.int .u8 r] (encL r) (by rw [b1 (x := r) (by omega)]; simp only [encL, if_pos c1, bcells, List.map_cons, List.map_nil]) 1 1 (by simp only [encL, if_pos c1, List.length_cons, List.length_nil])
    go_enter Tryd.func13, Tryd.ntmps13
    go_wp2
    go_ret
    exact ⟨rfl, (Below.refl _ _).alloc (Nat.le_refl _) _⟩
  by_cases c2 : r < 2048
  · have hcv := conv_new w #[.int .u8 (192 + r / 64), .int .u8 (128 + r % 64)] (encL r) (by rw [b1 (x := 192 + r / 64) (by omega), b1 (x := 128 + r % 64) (by omega)]; simp only [encL, if_neg c1, if_pos c2, bcells, List.map_cons, List.map_nil]) 2 2 (by simp only [encL, if_neg c1, if_pos c2, List.length_cons, List.length_nil])
    go_enter Tryd.func13, Tryd.ntmps13
    go_wp2
    go_ret
    exact ⟨rfl, (Below.refl _ _).alloc (Nat.le_refl _) _⟩
  by_cases c3 : r < 65536
  · have hcv := conv_new w #[.int .u8 (224 + r / 4096), .int .u8 (128 + r / 64 % 64), .int .u8 (128 + r % 64)] (encL r) (by rw [b1 (x := 224 + r / 4096) (by omega), b1 (x := 128 + r / 64 % 64) (by omega), b1 (x := 128 + r % 64) (by omega)]; simp only [encL, if_neg c1, if_neg c2, if_pos c3, bcells, List.map_cons, List.map_nil]) 3 3 (by simp only [encL, if_neg c1, if_neg c2, if_pos c3, List.length_cons, List.length_nil])
    go_enter Tryd.func13, Tryd.ntmps13
    go_wp2
    go_ret
    exact ⟨rfl, (Below.refl _ _).alloc (Nat.le_refl _) _⟩
  · have hcv := conv_new w #[.int .u8 (240 + r / 262144), .int .u8 (128 + r / 4096 % 64), .int .u8 (128 + r / 64 % 64), .int .u8 (128 + r % 64)] (encL r) (by rw [b1 (x := 240 + r / 262144) (by omega), b1 (x := 128 + r / 4096 % 64) (by omega), b1 (x := 128 + r / 64 % 64) (by omega), b1 (x := 128 + r % 64) (by omega)]; simp only [encL, if_neg c1, if_neg c2, if_neg c3, bcells, List.map_cons, List.map_nil]) 4 4 (by simp only [encL, if_neg c1, if_neg c2, if_neg c3, List.length_cons, List.length_nil])
    go_enter Tryd.func13, Tryd.ntmps13
    go_wp2
    go_ret
    exact ⟨rfl, (Below.refl _ _).alloc (Nat.le_refl _) _⟩
end Go.Proofs.YthbnglkpkgpojaaDoor
