/-
  The tables of unicode/utf8; the library's own decoding against the first element of a text; utf8.ValidRune. (Cut out of XQuotedWith.)
-/
import Derived.Test.YthbnglkpkgpojaaDoorOwn
import Derived.Test.YthbnglkpkgpojaaDoorStrWords
import Derived.Test.YthbnglkpkgpojaaDoorPlainText
import Derived.Test.YthbnglkpkgpojaaDoorShelf
import Derived.Lib.LaidU8
import Derived.PinnedBridge
import Derived.Lib.TrimUEq
import Derived.MakeChecks
import Derived.WalkKit
import Derived.WalkSpells
import Derived.Lib.Hide
import Derived.Below
namespace Go.Proofs.YthbnglkpkgpojaaDoor
open Go.RowKit
set_option maxRecDepth 1000000
set_option linter.unusedVariables false
set_option linter.unusedSimpArgs false
theorem reads_ofU {laid : List (String × DataW Unit)} {w : World} (h : laidMetH Tryd.prog laid w) (hp : (laid.all fun x => x.2.handleName?.isNone) = true) {n : String} {d : DataW Unit} (hm : (n, d) ∈ laid) : Lib.VarReads Tryd.prog w n d := by
  rw [MakeChecks.laidMetH_plain _ _ _ hp] at h
  exact Lib.laidMet.reads h hm
/-- the tables of unicode/utf8 -/
def Utf8T (w : World) : Prop := Lib.Utf8Tabs 7 8 w
theorem Utf8T.below {w w' : World} (h : Utf8T w) (hb : Below w.heap.size w w') : Utf8T w' := Utf8Tabs_below h hb
theorem utf8T_of {laid : List (String × DataW Unit)} {w : World} (h : laidMetH Tryd.prog laid w) (hp : (laid.all fun x => x.2.handleName?.isNone) = true)
    (h3 : ("unicode/utf8.first", Pinned.utf8First) ∈ laid) (h4 : ("unicode/utf8.acceptRanges", Lib.acceptData) ∈ laid) : Utf8T w :=
  utf8Tabs_of_reads (P := Tryd.prog) (ρ := Tryd.lays197_ren) { Tryd.lays197 with } ⟨by kernel_rfl, by kernel_rfl, by kernel_rfl, by kernel_rfl, by kernel_rfl, by kernel_rfl, by kernel_rfl⟩
    (by rw [← Pinned.utf8First_eq]; exact reads_ofU h hp h3) (reads_ofU h hp h4)
/-- the library's own decoding -/
def decL (l : List UInt8) : Nat × Nat := Lib.decodeN l.length (l.getD 0 0).toNat (l.getD 1 0).toNat (l.getD 2 0).toNat (l.getD 3 0).toNat
theorem get_str (l : List UInt8) (i : Nat) : (str l).get! i = l.getD i 0 := (Lib.getD_get!' (str l) i).symm
theorem decodeGo_str {l : List UInt8} (h : l ≠ []) : Lib.decodeGo (str l) = decL l := by
  have hs : ¬ (str l).size = 0 := by rw [size_str]; exact fun e => h (List.eq_nil_of_length_eq_zero e)
  rw [Lib.decodeGo, if_neg hs, Lib.decode_at, decL, Nat.sub_zero, size_str, get_str, get_str, get_str, get_str]
theorem decL_bad {l : List UInt8} (h : (decL l).2 = 1 ∧ (decL l).1 = 65533) : stepL l = (-1 - ((l.getD 0 0).toNat : Int), 1) := by
  unfold stepL
  show (if (decL l).2 = 1 ∧ (decL l).1 = 65533 then _ else _) = _
  rw [if_pos h]
theorem decL_good {l : List UInt8} (h : ¬ ((decL l).2 = 1 ∧ (decL l).1 = 65533)) : stepL l = (((decL l).1 : Int), (decL l).2) := by
  unfold stepL
  show (if (decL l).2 = 1 ∧ (decL l).1 = 65533 then _ else _) = _
  rw [if_neg h]; rfl
theorem decL_cp (l : List UInt8) : isCP ((decL l).1 : Int) = true := by
  have := Lib.decodeN_valid l.length (l.getD 0 0).toNat (l.getD 1 0).toNat (l.getD 2 0).toNat (l.getD 3 0).toNat (UInt8.toNat_lt _)
  simp only [isCP, decide_eq_true_eq]
  unfold decL
  omega
theorem decL_pos (l : List UInt8) : 1 ≤ (decL l).2 := Lib.decodeN_ge1 _ _ _ _ _
theorem decL_le {l : List UInt8} (h : l ≠ []) : (decL l).2 ≤ l.length := Lib.decodeN_width_le _ _ _ _ _ (List.length_pos_iff.2 h)
theorem decL_enc {r : Int} (h : isCP r = true) (x : List UInt8) : ((decL (encL r ++ x)).1 : Int) = r ∧ (decL (encL r ++ x)).2 = (encL r).length := by
  have hs := step_enc h x
  have h0 := (cp_bounds h).1
  by_cases hb : (decL (encL r ++ x)).2 = 1 ∧ (decL (encL r ++ x)).1 = 65533
  · rw [decL_bad hb] at hs
    have := congrArg Prod.fst hs
    simp only at this
    omega
  · rw [decL_good hb] at hs
    exact ⟨congrArg Prod.fst hs, congrArg Prod.snd hs⟩
theorem valid_cp {r : Int} (h : isCP r = true) : Lib.validRune r = true := by
  have := cp_bounds h
  simp only [Lib.validRune, decide_eq_true_eq]; omega
theorem validRune_cp {r : Int} (h : isCP r = true) (w : World) : Calls Tryd.prog 86 #[.int .i32 r] w fun e w' => e = .returned (.bool true) ∧ w = w' :=
  (Tryd.utf8_ValidRune r w).mono fun e w' ⟨h1, h2⟩ => ⟨by rw [h1, valid_cp h], h2.symm⟩
end Go.Proofs.YthbnglkpkgpojaaDoor
