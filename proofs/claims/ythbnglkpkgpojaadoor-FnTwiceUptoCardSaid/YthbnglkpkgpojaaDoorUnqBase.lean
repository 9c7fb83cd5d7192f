/-
  Words and contracts for strconv.unquote: parts of a text, utf8.AppendRune onto a buffer, the shape of a quoted text. Printed by wip/gen/unq.py.
-/
import Derived.Test.YthbnglkpkgpojaaDoorUcElem
import Derived.Test.YthbnglkpkgpojaaDoorIndex
import Derived.Test.YthbnglkpkgpojaaDoorByteInfo
import Derived.LoopN
import Derived.BigGuardPart
import Derived.BigCall
namespace Go.Proofs.YthbnglkpkgpojaaDoor
open Go.RowKit
set_option maxRecDepth 1000000
set_option linter.unusedVariables false
set_option linter.unusedSimpArgs false
theorem slice_str_to {P : Program} (t : TypeId) (ht : P.underlying t = some .string) (k : IntKind) (l : List UInt8) (b : Nat) (h : b ≤ l.length) (w : World) :
    (Instr.slice t (.string (str l)) none (some (.int k (b : Int))) none).run P w = .ok (.string (str (l.take b))) w := by
  rw [run_slice_string_h w t (str l) ht k _ (by omega) (by rw [size_str]; omega), extract_str]
  simp
theorem runeCells_cp {r : Int} (h : isCP r = true) : Lib.runeCells r = bcells (encL r) := by
  have h' := cp_bounds h
  rw [← encL_eq r h]
  unfold Lib.runeCells Lib.encodeRune bcells
  rw [List.map_map]
  apply List.map_congr_left
  intro x hx
  have : 0 ≤ x ∧ x ≤ 255 := by
    unfold Lib.encodeRuneZ at hx
    repeat' split at hx
    all_goals simp at hx
    all_goals omega
  simp; omega
theorem appendRune_buf {B : Nat} {v : Value} {l : List UInt8} {r : Int} {W0 : World} (hcp : isCP r = true) (hlen : l.length + 4 ≤ 140737488355328) (W : World) (hW : Buf 5 B v l W0 W) :
    Calls Tryd.prog 75 #[v, .int .i32 r] W fun e w' => ∃ v', e = .returned v' ∧ Buf 5 B v' (l ++ encL r) W0 w' := by
  have hb := cp_bounds hcp
  exact (Tryd.utf8_AppendRune_row B v l.length (bcells l) r (by omega) (by omega) W hW.1 (by omega) hW.2.2).mono fun e w' ⟨v', h1, h2, o, h3⟩ => ⟨v', h1, by
      have := (Lib.OwnBuf.alloc hW o).grown h2 h3
      rw [runeCells_cp hcp] at this
      simpa [Buf, bcells_append, bcells_length] using this⟩
theorem conv_bufU {B : Nat} {v : Value} {l : List UInt8} {W0 w : World} (h : Buf 5 B v l W0 w) : (convert 39 9 v).run Tryd.prog w = .ok (.string (str l)) w := by
  obtain ⟨A, c, rfl, _, _, hr⟩ := h.form
  exact run_convert_reads (P := Tryd.prog) w 39 5 9 Tryd.underlying39 Tryd.underlying5 Tryd.underlying9 c hr
theorem flatE_cons (q : Int) (st : Int → Bool) (r : Int) (es : List Int) : flatE q st (r :: es) = elemL q (st r) r ++ flatE q st es := by
  rw [flatE, List.flatMap_cons]; rfl
/-- the first byte of an element: no quote, no end of a line -/
theorem elem_head {q : Int} (hq : q = 34 ∨ q = 39) {st : Int → Bool} (hs : OkSt st) {r : Int} (hv : valE r) (t : List UInt8) : ∃ c : UInt8, (elemL q (st r) r ++ t)[0]? = some c ∧ (c.toNat : Int) ≠ q ∧ (c.toNat : Int) ≠ 10 := by
  by_cases hp : plainE q st r
  · rw [elem_plain hp]
    have hne := List.length_pos_iff.2 (encL_ne r)
    rw [List.getElem?_append_left hne]
    refine ⟨_, List.getElem?_eq_getElem hne, ?_⟩
    have := enc_plain hs hq hv hp _ (List.getElem_mem hne)
    obtain ⟨h1, h2, h3⟩ := this
    refine ⟨fun e => h3 ?_, by omega⟩
    rw [← byteZ_nat (encL r)[0], e]
  · obtain ⟨x, hx⟩ := elem_not_plain hv hp
    rw [hx]
    refine ⟨92, rfl, ?_⟩
    rcases hq with rfl | rfl <;> decide
def strLenU (v : Value) : Nat := match v with | .string x => x.size | _ => 0
/-- what strconv.unquote gives -/
def unqV (l : List UInt8) : Value := .tuple #[.string (str l), .string (str []), .nilIface]
end Go.Proofs.YthbnglkpkgpojaaDoor
