/-
  Contracts: strconv.unhex at a digit; strconv.UnquoteChar at a plain byte and at an escape sequence of one letter.
-/
import Derived.Test.YthbnglkpkgpojaaDoorPlainUnq
import Derived.Test.YthbnglkpkgpojaaDoorRows
import Derived.Test.YthbnglkpkgpojaaDoorStrWords
import Derived.WalkKit
import Derived.WalkSpells
import Derived.OwnWalk
import Derived.Lib.Hide
import Derived.Deep.QuietTactic
import Derived.BigQuiet
import Derived.BigGuardPart
import Derived.Outline
namespace Go.Proofs.YthbnglkpkgpojaaDoor
open Go.RowKit
set_option maxRecDepth 1000000
set_option linter.unusedVariables false
set_option linter.unusedSimpArgs false
theorem results_tmp4 {fn : Func} {t u v x : Tmp} (h : fn.results = #[.tmp t, .tmp u, .tmp v, .tmp x]) (tmps : Array Value) (P : Program) (w : World) :
    (results fn tmps).run P w = .ok (.tuple #[tmps.getD t undef, tmps.getD u undef, tmps.getD v undef, tmps.getD x undef]) w := by
  simp [results, h]
theorem hexB_val {x : Nat} (h : x < 16) : (x < 10 → ((hexB x).toNat : Int) = 48 + x) ∧ (¬ x < 10 → ((hexB x).toNat : Int) = 87 + x) := by
  unfold hexB
  constructor
  · intro h1; rw [if_pos h1, UInt8.toNat_ofNat']; omega
  · intro h1; rw [if_neg h1, UInt8.toNat_ofNat']; omega
theorem unhex_any (x : Nat) (hx : x < 16) (w : World) : Calls Tryd.prog 90 #[.int .u8 ((hexB x).toNat : Int)] w fun e w' => e = .returned (.tuple #[.int .i32 (x : Int), .bool true]) ∧ w = w' := by
  obtain ⟨h1, h2⟩ := hexB_val hx
  obtain ⟨y, hy⟩ : ∃ y : Int, y = ((hexB x).toNat : Int) := ⟨_, rfl⟩
  rw [← hy] at h1 h2 ⊢
  by_cases h : x < 10
  · have h3 := h1 h
    clear h1 h2 hy
    have y0 : 48 ≤ y ∧ y ≤ 57 := by omega
    have e1 : y - 48 = x := by omega
    clear h3
    go_enter Tryd.func90, Tryd.ntmps90
    go_wp2_with fail
    all_goals first | (exfalso; omega) | skip
    go_ret2
    exact ⟨by rw [← e1]; rfl, rfl⟩
  · have h3 := h2 h
    clear h1 h2 hy
    have y0 : 97 ≤ y ∧ y ≤ 102 := by omega
    have e1 : y - 97 + 10 = x := by omega
    clear h3
    go_enter Tryd.func90, Tryd.ntmps90
    go_wp2_with fail
    all_goals first | (exfalso; omega) | skip
    go_ret2
    exact ⟨by rw [← e1]; rfl, rfl⟩
/-- what UnquoteChar gives -/
def ucV (r : Int) (m : Bool) (t : List UInt8) : Value := .tuple #[.int .i32 r, .bool m, .string (str t), .nilIface]
set_option maxHeartbeats 4000000 in
theorem uc_ascii (c : UInt8) (t : List UInt8) (q : Int) (hq : q = 34 ∨ q = 39) (hc : c.toNat < 128) (h92 : c.toNat ≠ 92) (hcq : (c.toNat : Int) ≠ q) (w : World) :
    Calls Tryd.prog 74 #[.string (str (c :: t)), .int .u8 q] w fun e w' => e = .returned (ucV (c.toNat : Int) false t) ∧ Below w.heap.size w w' := by
  have hidx := idx_str0 (P := Tryd.prog) 9 Tryd.underlying9 (l := c :: t) (c := c) rfl
  have hsl := slice_str1 (P := Tryd.prog) 9 Tryd.underlying9 (c :: t) (by simp)
  rw [show (c :: t).drop 1 = t from rfl] at hsl
  obtain ⟨n, hn⟩ : ∃ n, n = (c :: t).length := ⟨_, rfl⟩
  have n1 : 1 ≤ n := by rw [hn]; simp
  have eL : (str (c :: t)).size = n := by rw [size_str, hn]
  have q0 : ((n : Int) == 0) = false := by simp; omega
  obtain ⟨y, hy⟩ : ∃ y : Int, y = (c.toNat : Int) := ⟨_, rfl⟩
  rw [← hy] at hidx hcq ⊢
  have y0 : 0 ≤ y := by omega
  have y1 : y < 128 := by omega
  have q1 : (y == q) = false := by simpa using hcq
  have q2 : (y == 92) = false := by simp; omega
  obtain ⟨l, hl⟩ : ∃ l, l = c :: t := ⟨_, rfl⟩
  rw [← hl] at hidx hsl eL ⊢
  have hwy : IntKind.i32.wrap y = y := by simp [IntKind.wrap, IntKind.bits, IntKind.signed]; omega
  clear hn hy hl hc h92 hcq hq
  go_enter Tryd.func74, Tryd.ntmps74
  go_wp2_with fail
  all_goals first | (exfalso; omega) | skip
  go_quiet (fail)
  go_wp2_with fail
  (try simp only [Exit.inBlock, Exit.then])
  refine bodyPost_ret (results_tmp4 rfl _ _ _) rfl ?_
  exact ⟨rfl, below_drewN _ _⟩
end Go.Proofs.YthbnglkpkgpojaaDoor
