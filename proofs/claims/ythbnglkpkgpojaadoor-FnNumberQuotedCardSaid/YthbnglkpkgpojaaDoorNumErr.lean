/-
  Contracts: impl.numError makes a NumError of its function, its text and its reason; Unwrap gives the reason.
-/
import Derived.Test.YthbnglkpkgpojaaDoorErrT
namespace Go.Proofs.YthbnglkpkgpojaaDoor
open Go.RowKit
theorem wp_eq {w w' : World} (h : w = w') : w' = w := h.symm
theorem numError_syn (w : World) (aS aR : Addr) (hE : ErrT w aS aR) (fn num : ByteArray) (k : Int) (hk : k = 1) :
    Calls Tryd.prog 44 #[.string fn, .string num, .int .i64 k] w fun e w' => e = .returned (.pointer (some ⟨w.heap.size, 0, none⟩)) ∧ w.alloc (.cells #[.string fn, .string num, .iface 112 (.pointer (some aS))] 74) = w' := by
  have v2 := hE.rng.var
  have v1 : ∀ o, (w.alloc o).cell? ⟨4, 0, none⟩ = some (.iface 112 (.pointer (some aS))) := fun o => by rw [World.cell?_alloc_lt w o _ (World.block_lt_of_cell? _ _ hE.syn.var)]; exact hE.syn.var
  subst hk
  clear hE
  go_enter Tryd.func44, Tryd.ntmps44
  go_wp2
  go_ret
  exact ⟨rfl, rfl⟩
theorem numError_rng (w : World) (aS aR : Addr) (hE : ErrT w aS aR) (fn num : ByteArray) (k : Int) (hk : ¬ k = 1) :
    Calls Tryd.prog 44 #[.string fn, .string num, .int .i64 k] w fun e w' => e = .returned (.pointer (some ⟨w.heap.size, 0, none⟩)) ∧ w.alloc (.cells #[.string fn, .string num, .iface 112 (.pointer (some aR))] 74) = w' := by
  have v2 := hE.rng.var
  have hb : (k == 1) = false := by simpa using hk
  clear hE
  go_enter Tryd.func44, Tryd.ntmps44
  go_wp2
  go_ret
  exact ⟨rfl, rfl⟩
end Go.Proofs.YthbnglkpkgpojaaDoor
