/-
  Contracts: strconv.Unquote and the thin package's, at a quoted text and at a quoted character.
-/
import Derived.Test.YthbnglkpkgpojaaDoorUnqEsc
import Derived.Test.YthbnglkpkgpojaaDoorUnqPlain
namespace Go.Proofs.YthbnglkpkgpojaaDoor
open Go.RowKit
set_option maxRecDepth 1000000
set_option linter.unusedVariables false
set_option linter.unusedSimpArgs false
theorem unq_any34 {st : Int → Bool} (hs : OkSt st) (es : List Int) (hv : ∀ r ∈ es, valE r) (hlen : (quoteL 34 st es).length ≤ 100000000) (w : World) (hU : Utf8T w) :
    Calls Tryd.prog 58 #[.string (str (quoteL 34 st es)), .bool true] w fun e w' => e = .returned (unqV (es.flatMap bytesE)) ∧ Below w.heap.size w w' := by
  by_cases hp : ∀ r ∈ es, plainE 34 st r
  · exact unq_pl34 hs es hv hp hlen w hU
  · exact unq_esc34 hs es hv hp hlen w hU
theorem unq_any39 {st : Int → Bool} (hs : OkSt st) (r : Int) (hv : valE r) (hlen : (quoteL 39 st [r]).length ≤ 100000000) (w : World) (hU : Utf8T w) :
    Calls Tryd.prog 58 #[.string (str (quoteL 39 st [r])), .bool true] w fun e w' => e = .returned (unqV ([r].flatMap bytesE)) ∧ Below w.heap.size w w' := by
  by_cases hp : ∀ x ∈ [r], plainE 39 st x
  · exact unq_pl39 hs r hv hp hlen w hU
  · exact unq_esc39 hs r hv hp hlen w hU
theorem sUnquote_of (l m : List UInt8) (w : World) (C0 : Calls Tryd.prog 58 #[.string (str l), .bool true] w fun e w' => e = .returned (unqV m) ∧ Below w.heap.size w w') :
    Calls Tryd.prog 39 #[.string (str l)] w fun e w' => e = .returned (.tuple #[.string (str m), .nilIface]) ∧ Below w.heap.size w w' := by
  have C := Lib.hid C0
  have e0 : (str []).size = 0 := rfl
  clear C0
  go_enter Tryd.func39, Tryd.ntmps39
  go_wp2_with (go_at_call 58; refine C.out.mono ?_; unfold unqV; rintro e w1 ⟨rfl, hw1⟩)
  go_ret2
  exact ⟨rfl, hw1⟩
theorem iUnquote_of (l m : List UInt8) (w : World) (C0 : Calls Tryd.prog 58 #[.string (str l), .bool true] w fun e w' => e = .returned (unqV m) ∧ Below w.heap.size w w') :
    Calls Tryd.prog 20 #[.string (str l)] w fun e w' => e = .returned (.tuple #[.string (str m), .bool true]) ∧ Below w.heap.size w w' := by
  have C := Lib.hid (sUnquote_of l m w C0)
  clear C0
  go_enter Tryd.func20, Tryd.ntmps20
  go_wp2_with (go_at_call 39; refine C.out.mono ?_; rintro e w1 ⟨rfl, hw1⟩)
  go_quiet (fail)
  go_wp2_with fail
  go_ret2
  exact ⟨rfl, hw1.trans ((below_drewN _ _).mono hw1.size)⟩
/-- Unquote of the quoted form of a text -/
theorem iUnquote_text {st : Int → Bool} (hs : OkSt st) (s : List UInt8) (hlen : (quoteL 34 st (elemsOf s)).length ≤ 100000000) (w : World) (hU : Utf8T w) :
    Calls Tryd.prog 20 #[.string (str (quoteL 34 st (elemsOf s)))] w fun e w' => e = .returned (.tuple #[.string (str s), .bool true]) ∧ Below w.heap.size w w' := by
  have h := unq_any34 hs (elemsOf s) (elems_val s) hlen w hU
  rw [elems_bytes] at h
  exact iUnquote_of _ _ w h
/-- Unquote of a quoted character -/
theorem iUnquote_rune {st : Int → Bool} (hs : OkSt st) (r : Int) (hcp : isCP r = true) (w : World) (hU : Utf8T w) :
    Calls Tryd.prog 20 #[.string (str (quoteL 39 st [r]))] w fun e w' => e = .returned (.tuple #[.string (str (encL r)), .bool true]) ∧ Below w.heap.size w w' := by
  have h := unq_any39 hs r (.inr hcp) (by have a := (elemL_length 39 (st r) r); simp [quoteL]; omega) w hU
  have e : [r].flatMap bytesE = encL r := by
    have := (cp_bounds hcp).1
    simp only [List.flatMap_cons, List.flatMap_nil, List.append_nil]
    rw [bytesE, if_neg (by omega)]
  rw [e] at h
  exact iUnquote_of _ _ w h
end Go.Proofs.YthbnglkpkgpojaaDoor
