/-
  What the row's list gives: the tables of strconv.IsPrint (and isGraphic) lie in their variables; the contracts of strconv.IsPrint, isInGraphicList, IsGraphic at these tables.
-/
import Derived.Test.YthbnglkpkgpojaaDoorRows
import Derived.Test.YthbnglkpkgpojaaDoorShelf
import Derived.Test.YthbnglkpkgpojaaDoorPlainClass
import Derived.PinnedBridge
import Derived.MakeChecks
import Derived.WalkKit
import Derived.WalkSpells
import Derived.Lib.Hide
import Derived.Below
namespace Go.Proofs.YthbnglkpkgpojaaDoor
open Go.RowKit

theorem reads_of {laid : List (String × DataW Unit)} {w : World} (h : laidMetH Tryd.prog laid w) (hp : (laid.all fun x => x.2.handleName?.isNone) = true) {n : String} {d : DataW Unit} (hm : (n, d) ∈ laid) : Lib.VarReads Tryd.prog w n d := by
  rw [MakeChecks.laidMetH_plain _ _ _ hp] at h
  exact Lib.laidMet.reads h hm
/-- the four tables of IsPrint -/
def PrintT (w : World) : Prop := Lib.PrintTabsAt 0 1 2 3 Lib.goPrintTabs w
theorem printT_of {laid : List (String × DataW Unit)} {w : World} (h : laidMetH Tryd.prog laid w) (hp : (laid.all fun x => x.2.handleName?.isNone) = true)
    (h1 : ("strconv.isPrint16", Pinned.isPrint16) ∈ laid) (h2 : ("strconv.isNotPrint16", Pinned.isNotPrint16) ∈ laid) (h3 : ("strconv.isPrint32", Pinned.isPrint32) ∈ laid) (h4 : ("strconv.isNotPrint32", Pinned.isNotPrint32) ∈ laid) : PrintT w :=
  printTabs_of_reads (ρ := Tryd.lays339_ren) Tryd.lays339 ⟨by kernel_rfl, by kernel_rfl, by kernel_rfl, by kernel_rfl, by kernel_rfl, by kernel_rfl, by kernel_rfl, by kernel_rfl, by kernel_rfl, by kernel_rfl⟩
    (by rw [← Pinned.isPrint16_eq]; exact reads_of h hp h1) (by rw [← Pinned.isNotPrint16_eq]; exact reads_of h hp h2) (by rw [← Pinned.isPrint32_eq]; exact reads_of h hp h3) (by rw [← Pinned.isNotPrint32_eq]; exact reads_of h hp h4)
theorem tabSlice_below {g : Nat} {k : IntKind} {t : List Nat} {w w' : World} (h : Lib.TabSlice g k t w) (hb : Below w.heap.size w w') : Lib.TabSlice g k t w' := by
  obtain ⟨R, o, c, h1, h2⟩ := h
  exact ⟨R, o, c, by rw [hb.cell (World.block_lt_of_cell? _ _ h1)]; exact h1, fun j hj => by rw [hb.cell (World.block_lt_of_cell? _ _ (h2 j hj))]; exact h2 j hj⟩
theorem PrintT.below {w w' : World} (h : PrintT w) (hb : Below w.heap.size w w') : PrintT w' :=
  ⟨tabSlice_below h.1 hb, tabSlice_below h.2.1 hb, tabSlice_below h.2.2.1 hb, tabSlice_below h.2.2.2.1 hb, h.2.2.2.2⟩
theorem below_drewN (w : World) (q : Nat) : Below w.heap.size w (w.drewN q) := ⟨rfl, rfl, rfl, Nat.le_refl _, fun _ _ => rfl⟩
/-- strconv.IsPrint at every number -/
def printB (r : Int) : Bool := Lib.isPrintR Lib.goPrintTabs r
theorem isPrint_any (r : Int) (w : World) (h0 : -2147483648 ≤ r) (h1 : r ≤ 2147483647) (hT : PrintT w) : Calls Tryd.prog 32 #[.int .i32 r] w fun e w' => e = .returned (.bool (printB r)) ∧ ∃ q, w' = w.drewN q :=
  Tryd.strconv_IsPrint Lib.goPrintTabs r w h0 h1 hT
/-- the table isGraphic -/
def GraphicT (w : World) : Prop := Lib.TabSlice 6 .u16 Pinned.isGraphicZ w
theorem isGraphic_data : Pinned.isGraphic = Lib.sliceData .u16 Pinned.isGraphicZ := by kernel_rfl
theorem graphicT_of {laid : List (String × DataW Unit)} {w : World} (h : laidMetH Tryd.prog laid w) (hp : (laid.all fun x => x.2.handleName?.isNone) = true) (h1 : ("strconv.isGraphic", Pinned.isGraphic) ∈ laid) : GraphicT w :=
  Lib.tabSlice_of_reads (P := Tryd.prog) (t := 60) (e := 59) (by kernel_rfl) (by kernel_rfl) Tryd.underlying60 Tryd.underlying59 (by kernel_rfl) (by decide) (by rw [← isGraphic_data]; exact reads_of h hp h1)
theorem GraphicT.below {w w' : World} (h : GraphicT w) (hb : Below w.heap.size w w') : GraphicT w' := tabSlice_below h hb
theorem wrap_u16 (r : Int) : IntKind.u16.wrap r = ((r % 65536).toNat : Int) := by
  simp only [IntKind.wrap, IntKind.bits, IntKind.signed]
  simp
  omega
set_option maxHeartbeats 400000 in
theorem isInGraphicList_any (r : Int) (w : World) (hT : GraphicT w) : Calls Tryd.prog 55 #[.int .i32 r] w fun e w' => e = .returned (.bool (inGraphic r)) ∧ ∃ q, w' = w.drewN q := by
  by_cases hr : 65535 < r
  · go_enter Tryd.func55, Tryd.ntmps55
    go_wp2
    go_ret
    exact ⟨by simp [inGraphic, hr], 0, rfl⟩
  · obtain ⟨R, o, c, h1, h2⟩ := hT
    have C := Lib.hid (Tryd.strconv_bsearch16 R o c Pinned.isGraphicZ (r % 65536).toNat w (by decide) (by decide) h2)
    clear h2
    have hwr := wrap_u16 r
    obtain ⟨n, hn⟩ : ∃ n, n = Pinned.isGraphicZ.length := ⟨_, rfl⟩
    rw [← hn] at h1 C
    have HN := Lib.hid hn; clear hn
    obtain ⟨v, hv⟩ : ∃ v : Nat, v = (r % 65536).toNat := ⟨_, rfl⟩
    rw [← hv] at hwr C
    have HV := Lib.hid hv; clear hv
    go_enter Tryd.func55, Tryd.ntmps55
    go_wp2_with (go_at_call 53; refine C.out.mono ?_; rintro e w' ⟨rfl, q, rfl⟩)
    go_ret
    exact ⟨by simp only [inGraphic, if_neg (show ¬ 65535 < r by omega), ← HV.out]; rfl, q, rfl⟩
theorem isGraphic_any (r : Int) (w : World) (h0 : -2147483648 ≤ r) (h1 : r ≤ 2147483647) (hT : PrintT w) (hG : GraphicT w) : Calls Tryd.prog 33 #[.int .i32 r] w fun e w' => e = .returned (.bool (printB r || inGraphic r)) ∧ ∃ q, w' = w.drewN q := by
  have C1 := Lib.hid (isPrint_any r w h0 h1 hT)
  have C2 := fun q => Lib.hid (isInGraphicList_any r (w.drewN q) (hG.below (below_drewN w q)))
  cases hp : printB r
  · rw [hp] at C1
    clear hT hG
    go_enter Tryd.func33, Tryd.ntmps33
    go_wp2_with (first | (go_at_call 32; refine C1.out.mono ?_; rintro e w' ⟨rfl, q, rfl⟩) | (go_at_call 55; refine (C2 q).out.mono ?_; rintro e w' ⟨rfl, q2, rfl⟩))
    go_ret
    exact ⟨by simp, q + q2, by simp [World.drewN]⟩
  · rw [hp] at C1
    clear hT hG
    go_enter Tryd.func33, Tryd.ntmps33
    go_wp2_with (first | (go_at_call 32; refine C1.out.mono ?_; rintro e w' ⟨rfl, q, rfl⟩) | (go_at_call 55; refine (C2 q).out.mono ?_; rintro e w' ⟨rfl, q2, rfl⟩))
    go_ret
    exact ⟨by simp, q, rfl⟩
end Go.Proofs.YthbnglkpkgpojaaDoor
