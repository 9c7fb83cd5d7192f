/-
  Words for strings: a byte of a text, a part of a text. No program in sight.
-/
import Derived.Test.YthbnglkpkgpojaaDoorWords
import Derived.Laws.Strings
import Derived.Laws.Strings2
import Derived.Laws.Slices
import Derived.Lib.Strings
import Derived.Lib.IndexBytes
namespace Go.Proofs.YthbnglkpkgpojaaDoor
open Go.RowKit
section
variable {P : Program}
theorem str_at {l : List UInt8} {i : Nat} {c : UInt8} (h : l[i]? = some c) : ∃ hi : i < (str l).size, (str l)[i]'hi = c := by
  have h1 := (List.getElem?_eq_some_iff.1 h)
  obtain ⟨h2, h3⟩ := h1
  exact ⟨by rw [size_str]; exact h2, h3⟩
theorem idx_str (t : TypeId) (ht : P.underlying t = some .string) (k : IntKind) {l : List UInt8} {i : Nat} {c : UInt8} (h : l[i]? = some c) (w : World) :
    (Instr.index t (.string (str l)) (.int k (i : Int))).run P w = .ok (.int .u8 (c.toNat : Int)) w := by
  obtain ⟨hi, hc⟩ := str_at h
  rw [run_index_string w t (str l) k _ ht, dif_pos ⟨by omega, by omega⟩]
  have e : ((i : Int)).toNat = i := by omega
  simp only [e, hc]
theorem idx_str0 (t : TypeId) (ht : P.underlying t = some .string) {l : List UInt8} {c : UInt8} (h : l[0]? = some c) (w : World) : (Instr.index t (.string (str l)) (.int .i64 0)).run P w = .ok (.int .u8 (c.toNat : Int)) w := idx_str t ht .i64 (i := 0) h w
theorem idx_str1 (t : TypeId) (ht : P.underlying t = some .string) {l : List UInt8} {c : UInt8} (h : l[1]? = some c) (w : World) : (Instr.index t (.string (str l)) (.int .i64 1)).run P w = .ok (.int .u8 (c.toNat : Int)) w := idx_str t ht .i64 (i := 1) h w
theorem extract_str (l : List UInt8) (a b : Nat) : (str l).extract a b = str ((l.drop a).take (b - a)) := by
  have h := Lib.extract_data (str l) a b
  rw [toList_str] at h
  rw [← h, str_toList]
theorem slice_str (t : TypeId) (ht : P.underlying t = some .string) (k k' : IntKind) (l : List UInt8) (a b : Nat) (h1 : a ≤ b) (h2 : b ≤ l.length) (w : World) :
    (Instr.slice t (.string (str l)) (some (.int k (a : Int))) (some (.int k' (b : Int))) none).run P w = .ok (.string (str ((l.drop a).take (b - a)))) w := by
  rw [run_slice_string w t (str l) k k' _ _ ht (by omega) (by omega) (by rw [size_str]; omega), ← extract_str]
  rfl
theorem slice_str_from (t : TypeId) (ht : P.underlying t = some .string) (k : IntKind) (l : List UInt8) (a : Nat) (h1 : a ≤ l.length) (w : World) : (Instr.slice t (.string (str l)) (some (.int k (a : Int))) none none).run P w = .ok (.string (str (l.drop a))) w := by
  rw [run_slice_string_l w t (str l) ht k _ (by omega) (by rw [size_str]; omega), extract_str, size_str]
  rw [show ((a : Int)).toNat = a by omega, List.take_of_length_le (by simp)]
theorem slice_str1 (t : TypeId) (ht : P.underlying t = some .string) (l : List UInt8) (h1 : 1 ≤ l.length) (w : World) : (Instr.slice t (.string (str l)) (some (.int .i64 1)) none none).run P w = .ok (.string (str (l.drop 1))) w := slice_str_from t ht .i64 l 1 h1 w
theorem slice_str2 (t : TypeId) (ht : P.underlying t = some .string) (l : List UInt8) (h1 : 2 ≤ l.length) (w : World) : (Instr.slice t (.string (str l)) (some (.int .i64 2)) none none).run P w = .ok (.string (str (l.drop 2))) w := slice_str_from t ht .i64 l 2 h1 w
end
theorem below_drewN (w : World) (n : Nat) : Below w.heap.size w (w.drewN n) := ⟨rfl, rfl, rfl, Nat.le_refl _, fun _ _ => rfl⟩
theorem str_eq (l m : List UInt8) : ((str l).toList == (str m).toList) = (l == m) := by
  rw [Lib.toList_data, Lib.toList_data]; rfl
end Go.Proofs.YthbnglkpkgpojaaDoor
