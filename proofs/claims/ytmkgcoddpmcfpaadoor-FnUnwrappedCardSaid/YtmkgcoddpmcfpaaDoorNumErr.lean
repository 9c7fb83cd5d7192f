/-
  Contracts: impl.numError makes a NumError of its function, its text and its reason; Unwrap gives the reason.
-/
import Derived.Test.YtmkgcoddpmcfpaaDoorErrT
namespace Go.Proofs.YtmkgcoddpmcfpaaDoor
open Go.RowKit
theorem wp_eq {w w' : World} (h : w = w') : w' = w := h.symm
theorem numError_syn (w : World) (aS aR : Addr) (hE : ErrT w aS aR) (fn num : ByteArray) (k : Int) (hk : k = 1) :
    Calls Tryd.prog 11 #[.string fn, .string num, .int .i64 k] w fun e w' => e = .returned (.pointer (some ⟨w.heap.size, 0, none⟩)) ∧ w.alloc (.cells #[.string fn, .string num, .iface 42 (.pointer (some aS))] 33) = w' := by
  have v2 := hE.rng.var
  have v1 : ∀ o, (w.alloc o).cell? ⟨0, 0, none⟩ = some (.iface 42 (.pointer (some aS))) := fun o => by rw [World.cell?_alloc_lt w o _ (World.block_lt_of_cell? _ _ hE.syn.var)]; exact hE.syn.var
  subst hk
  clear hE
  go_enter Tryd.func11, Tryd.ntmps11
  go_wp2
  go_ret
  exact ⟨rfl, rfl⟩
theorem numError_rng (w : World) (aS aR : Addr) (hE : ErrT w aS aR) (fn num : ByteArray) (k : Int) (hk : ¬ k = 1) :
    Calls Tryd.prog 11 #[.string fn, .string num, .int .i64 k] w fun e w' => e = .returned (.pointer (some ⟨w.heap.size, 0, none⟩)) ∧ w.alloc (.cells #[.string fn, .string num, .iface 42 (.pointer (some aR))] 33) = w' := by
  have v2 := hE.rng.var
  have hb : (k == 1) = false := by simpa using hk
  clear hE
  go_enter Tryd.func11, Tryd.ntmps11
  go_wp2
  go_ret
  exact ⟨rfl, rfl⟩
theorem unwrap_any (w : World) (b : Nat) (v : Value) (T : TypeId) (x : Value) (hc : w.cell? ⟨b, 2, none⟩ = some (.iface T x)) (hv : v = .pointer (some ⟨b, 0, none⟩)) :
    Calls Tryd.prog 12 #[v] w fun e w' => e = .returned (.iface T x) ∧ w = w' := by
  subst hv
  go_enter Tryd.func12, Tryd.ntmps12
  go_wp2
  go_ret
  exact ⟨rfl, rfl⟩
end Go.Proofs.YtmkgcoddpmcfpaaDoor
