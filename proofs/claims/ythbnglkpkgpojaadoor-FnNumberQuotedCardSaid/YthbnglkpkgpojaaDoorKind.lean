/-
  Contract: impl.kind tells the two sentinels from each other and from any other error.
-/
import Derived.Test.YthbnglkpkgpojaaDoorErrT
namespace Go.Proofs.YthbnglkpkgpojaaDoor
open Go.RowKit
set_option maxRecDepth 100000
/-- impl.kind of an errorString: 1 for ErrSyntax, 2 for ErrRange, 3 for any other -/
theorem kind_syn (w : World) (aS aR : Addr) (h : ErrT w aS aR) : Calls Tryd.prog 62 #[.iface 112 (.pointer (some aS))] w fun e w' => e = .returned (.int .i64 1) ∧ w = w' := by
  have h1 := h.syn.var
  have e1 := eql_same w aS
  clear h
  go_enter Tryd.func62, Tryd.ntmps62
  go_wp2
  go_ret
  exact ⟨rfl, rfl⟩
theorem kind_rng (w : World) (aS aR : Addr) (h : ErrT w aS aR) : Calls Tryd.prog 62 #[.iface 112 (.pointer (some aR))] w fun e w' => e = .returned (.int .i64 2) ∧ w = w' := by
  have h1 := h.syn.var
  have h2 := h.rng.var
  have e1 := eql_same w aR
  have e2 := eql_other w (Ne.symm h.ne) h.rng.blk h.syn.blk
  clear h
  go_enter Tryd.func62, Tryd.ntmps62
  go_wp2
  go_ret
  exact ⟨rfl, rfl⟩
theorem kind_other (w : World) (aS aR a : Addr) (h : ErrT w aS aR) (n1 : a ≠ aS) (n2 : a ≠ aR) (hb : ∃ c t, w.heap[a.block]? = some (.cells c t (0, 0))) : Calls Tryd.prog 62 #[.iface 112 (.pointer (some a))] w fun e w' => e = .returned (.int .i64 3) ∧ w = w' := by
  have h1 := h.syn.var
  have h2 := h.rng.var
  have e1 := eql_other w n1 hb h.syn.blk
  have e2 := eql_other w n2 hb h.rng.blk
  clear h
  go_enter Tryd.func62, Tryd.ntmps62
  go_wp2
  go_ret
  exact ⟨rfl, rfl⟩
end Go.Proofs.YthbnglkpkgpojaaDoor
