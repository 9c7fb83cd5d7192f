/-
  Words for a row of bytes that a conversion of a string has made: it reads, it is written. No program in sight.
-/
import Derived.Test.YthbnglkpkgpojaaDoorWords
import Derived.Test.YthbnglkpkgpojaaDoorStrWords
import Derived.Lib.ConvBytes
import Derived.Lib.AtoiErrMem
import Derived.Lib.ItoaMem
namespace Go.Proofs.YthbnglkpkgpojaaDoor
open Go.RowKit
/-- block g is a row of bytes, of which the first ones are l; what a string shares lies behind all of them -/
def RowAt (g : Nat) (e : TypeId) (l : List UInt8) (w : World) : Prop := ∃ cur : Array Value, w.heap[g]? = some (.cells cur e (cur.size, cur.size + 1)) ∧ l.length ≤ cur.size ∧ cur.toList.take l.length = bcells l
theorem RowAt.at_ {g e l w} (h : RowAt g e l w) {j : Nat} {c : UInt8} (hj : l[j]? = some c) : w.cell? ⟨g, j, none⟩ = some (.int .u8 (c.toNat : Int)) ∧ w.frozen? ⟨g, j, none⟩ = false := by
  obtain ⟨cur, h1, h2, h3⟩ := h
  have hlt : j < l.length := (List.getElem?_eq_some_iff.1 hj).1
  constructor
  · simp only [World.cell?, h1]
    have e1 : (cur.toList.take l.length)[j]? = some (.int .u8 (c.toNat : Int)) := by rw [h3]; simp [bcells, hj]
    rw [List.getElem?_take_of_lt hlt] at e1
    simpa using e1
  · simp [World.frozen?, h1]; omega
theorem RowAt.set {g e l w} (h : RowAt g e l w) (j : Nat) (c : UInt8) : RowAt g e (l.set j c) (w.setCell ⟨g, j, none⟩ (.int .u8 (c.toNat : Int))) := by
  obtain ⟨cur, h1, h2, h3⟩ := h
  refine ⟨cur.setIfInBounds j (.int .u8 (c.toNat : Int)), ?_, by simpa using h2, ?_⟩
  · simp only [World.setCell, Array.getElem?_modify, if_pos, h1, Option.map_some]
    simp
  · rw [List.length_set, Array.toList_setIfInBounds, List.take_set, h3]
    simp [bcells, List.map_set]
theorem RowAt.reads {g e l w} (h : RowAt g e l w) : Reads w w.heap.size 1 (some ⟨g, 0, none⟩) l.length (bcells l) := by
  refine ⟨by simp [bcells], fun hn => ⟨_, rfl, ?_, fun j u hu => ?_⟩⟩
  · obtain ⟨cur, h1, _⟩ := h
    exact (Array.getElem?_eq_some_iff.1 h1).1
  · rw [Lib.add_plain, Nat.zero_add]
    simp only [bcells, List.getElem?_map, Option.map_eq_some_iff] at hu
    obtain ⟨c, hc, rfl⟩ := hu
    exact (h.at_ hc).1
theorem RowAt.below {g e l w w'} (h : RowAt g e l w) (hb : Below w.heap.size w w') : RowAt g e l w' := by
  obtain ⟨cur, h1, h2, h3⟩ := h
  exact ⟨cur, by rw [hb.block g (Array.getElem?_eq_some_iff.1 h1).1]; exact h1, h2, h3⟩
theorem rowAt_conv (w : World) (e : TypeId) (l : List UInt8) : RowAt w.heap.size e l (Lib.bytesWorld w e (str l)) := by
  refine ⟨_, Lib.bytesWorld_at_new w e (str l), ?_, ?_⟩
  · simp [Lib.bytesCells, str]
  · simp only [Lib.bytesCells, Array.toList_append, Array.toList_map]
    rw [List.take_append_of_le_length (by simp [str])]
    exact List.take_of_length_le (by simp [str])
end Go.Proofs.YthbnglkpkgpojaaDoor
