/-
  What the row's list gives: the table of powers of ten lies in its variable.
-/
import Derived.Test.YthbnglkpkgpojaaDoorRows
import Derived.Test.YthbnglkpkgpojaaDoorShelf
import Derived.Test.YthbnglkpkgpojaaDoorFmtWords
import Derived.MakeChecks
import Derived.Lib.LaidTab
import Derived.Lib.LaidU8
import Derived.Lib.AppendIntMem
import Derived.WalkSpells
import Derived.Lib.Hide
namespace Go.Proofs.YthbnglkpkgpojaaDoor
set_option maxRecDepth 100000
open Go.RowKit
theorem reads_of {laid : List (String × DataW Unit)} {w : World} (h : laidMetH Tryd.prog laid w) (hp : (laid.all fun x => x.2.handleName?.isNone) = true) {n : String} {d : DataW Unit} (hm : (n, d) ∈ laid) : Lib.VarReads Tryd.prog w n d := by
  rw [MakeChecks.laidMetH_plain _ _ _ hp] at h
  exact Lib.laidMet.reads h hm
theorem tabIs_of_reads {P : Program} {W : World} {name : String} {k : IntKind} {zs : List Int} {g : Nat} {t e : TypeId} {n : Nat}
    (hg : P.globalNamed name = some g) (hty : (P.globals[g]?).map (·.type) = some t) (ht : P.underlying t = some (.array n e)) (he : P.underlying e = some (.int k)) (hce : P.cellsOf e = 1) (hct : P.cellsOf t = n)
    (h : Lib.VarReads P W name (Lib.tabData k zs)) : Lib.TabIs P W name k zs := by
  obtain ⟨g', t', cs, fuel, p, hg', ht', hvar, hd⟩ := h
  obtain rfl := Option.some.inj (hg.symm.trans hg')
  obtain rfl := Option.some.inj (hty.symm.trans ht')
  unfold Lib.TabIs
  rw [hvar, ← Lib.cells_of_tab ht he hce hct hd]
def Pow10T (w : World) : Prop := Lib.TabIs Tryd.prog w "internal/strconv.uint64pow10" .u64 Lib.pow10Tab
theorem pow10_data : (Rows.laid_internal_strconv_uint64pow10 : DataW Unit) = Lib.tabData .u64 Lib.pow10Tab := by kernel_rfl
theorem pow10T_of {laid : List (String × DataW Unit)} {w : World} (h : laidMetH Tryd.prog laid w) (hp : (laid.all fun x => x.2.handleName?.isNone) = true) (hm : ("internal/strconv.uint64pow10", Rows.laid_internal_strconv_uint64pow10) ∈ laid) : Pow10T w :=
  tabIs_of_reads (g := 9) (by kernel_rfl) (t := 104) (n := 20) (by kernel_rfl) (by kernel_rfl) (e := 40) Tryd.underlying40 (by kernel_rfl) (by kernel_rfl) (by rw [← pow10_data]; exact reads_of h hp hm)
theorem Pow10T.below {w w' : World} (h : Pow10T w) (hb : Below w.heap.size w w') : Pow10T w' := Lib.tabBelow_of_tabIs h w' hb
end Go.Proofs.YthbnglkpkgpojaaDoor
