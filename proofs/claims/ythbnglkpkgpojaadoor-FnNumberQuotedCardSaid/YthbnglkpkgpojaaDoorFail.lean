/-
  Contracts: impl.failure makes plain data of an error: none, or a NumError.
-/
import Derived.Test.YthbnglkpkgpojaaDoorKind
import Derived.Test.YthbnglkpkgpojaaDoorWords
import Derived.Deep.RegionHeld3
import Derived.Outline
namespace Go.Proofs.YthbnglkpkgpojaaDoor
open Go.RowKit
set_option maxRecDepth 100000
set_option linter.unusedVariables false
set_option linter.unusedSimpArgs false
/-- a failure as the thin package gives it -/
def failV (k : Int) (fn num : ByteArray) : Value := .agg #[.int .i64 k, .string fn, .string num]
theorem failure_nil (w : World) : Calls Tryd.prog 43 #[.nilIface] w fun e w' => e = .returned (failV 0 (str []) (str [])) ∧ Below w.heap.size w w' := by
  go_enter Tryd.func43, Tryd.ntmps43
  go_wp2
  exact bodyPost_ret (v := failV 0 (str []) (str [])) (by simp [failV, str, results, Tryd.results43, go_sem]) rfl ⟨rfl, (Below.refl _ _).alloc (Nat.le_refl _) _⟩
set_option maxHeartbeats 2000000 in
theorem failure_num (w : World) (N : Nat) (fn num : ByteArray) (ev : Value) (k : Int) (hN : w.heap[N]? = some (.cells #[.string fn, .string num, ev] 74 (0, 0)))
    (hk : ∀ wx, Below w.heap.size w wx → Calls Tryd.prog 62 #[ev] wx fun e w' => e = .returned (.int .i64 k) ∧ wx = w') :
    Calls Tryd.prog 43 #[.iface 55 (.pointer (some ⟨N, 0, none⟩))] w fun e w' => e = .returned (failV k fn num) ∧ Below w.heap.size w w' := by
  have hlt : N < w.heap.size := (Array.getElem?_eq_some_iff.1 hN).1
  have HK := Lib.hid hk
  have hc : ∀ (o : Obj), Hid ((w.alloc o).cell? ⟨N, 0, none⟩ = some (.string fn) ∧ (w.alloc o).cell? ⟨N, 1, none⟩ = some (.string num) ∧ (w.alloc o).cell? ⟨N, 2, none⟩ = some ev) := fun o => by
    refine ⟨?_, ?_, ?_⟩ <;> (rw [World.cell?_alloc_lt w o _ hlt]; simp [World.cell?, hN])
  have hta : ∀ wx, (Instr.typeAssert (.iface 55 (.pointer (some ⟨N, 0, none⟩))) 49 55 true).run Tryd.prog wx = .ok (.tuple #[.pointer (some ⟨N, 0, none⟩), .bool true]) wx := fun wx => by kernel_rfl
  have HS := hc (.cells #[.int .i64 0, .string ⟨#[]⟩, .string ⟨#[]⟩] 34)
  clear hN hk
  go_enter Tryd.func43, Tryd.ntmps43
  go_wp2
  have hB : Below w.heap.size w (w.alloc (.cells #[.int .i64 0, .string ⟨#[]⟩, .string ⟨#[]⟩] 34)).drew := ((Below.refl _ _).alloc (Nat.le_refl _) _).drew
  refine wp_region_held_drew (S := fun w' => w'.cell? ⟨N, 0, none⟩ = some (.string fn) ∧ w'.cell? ⟨N, 1, none⟩ = some (.string num) ∧ w'.cell? ⟨N, 2, none⟩ = some ev) (by kernel_rfl) HS.out (fun hHeld => ?_)
  refine wpAnyH_take (i := 0) (oi := ⟨some 16, _, _, _, _, _⟩) (v := ?_) rfl (by kernel_rfl) (by kernel_rfl) (by kernel_rfl) (fun _ _ _ h => h) (Or.inl ⟨by kernel_rfl, ?_⟩) (by assumption) ?_
  case refine_2 => (intro w hSw; (try dsimp only at hSw); obtain ⟨q0, q1, q2⟩ := hSw; go_simp; (try with_reducible rfl))
  try simp only [Act.put, List.setIfInBounds_toArray, List.set_cons_zero, List.set_cons_succ]
  refine wpAnyH_take (i := 1) (oi := ⟨some 17, _, _, _, _, _⟩) (v := ?_) rfl (by kernel_rfl) (by kernel_rfl) (by kernel_rfl) (fun _ _ _ h => h) (Or.inl ⟨by kernel_rfl, ?_⟩) (by assumption) ?_
  case refine_2 => (intro w hSw; (try dsimp only at hSw); obtain ⟨q0, q1, q2⟩ := hSw; go_simp; (try with_reducible rfl))
  try simp only [Act.put, List.setIfInBounds_toArray, List.set_cons_zero, List.set_cons_succ]
  refine wpAnyH_take (i := 2) (oi := ⟨some 18, _, _, _, _, _⟩) (v := ?_) rfl (by kernel_rfl) (by kernel_rfl) (by kernel_rfl) (fun _ _ _ h => h) (Or.inl ⟨by kernel_rfl, ?_⟩) (by assumption) ?_
  case refine_2 => (intro w hSw; (try dsimp only at hSw); obtain ⟨q0, q1, q2⟩ := hSw; go_simp; (try with_reducible rfl))
  try simp only [Act.put, List.setIfInBounds_toArray, List.set_cons_zero, List.set_cons_succ]
  refine wpAnyH_take (i := 3) (oi := ⟨some 19, _, _, _, _, _⟩) (v := ?_) rfl (by kernel_rfl) (by kernel_rfl) (by kernel_rfl) (fun _ _ _ h => h) (Or.inl ⟨by kernel_rfl, ?_⟩) (by assumption) ?_
  case refine_2 => (intro w hSw; (try dsimp only at hSw); obtain ⟨q0, q1, q2⟩ := hSw; go_simp; (try with_reducible rfl))
  try simp only [Act.put, List.setIfInBounds_toArray, List.set_cons_zero, List.set_cons_succ]
  refine wpAnyH_take (i := 5) (oi := ⟨some 21, _, _, _, _, _⟩) (v := ?_) rfl (by kernel_rfl) (by kernel_rfl) (by kernel_rfl) (fun _ _ _ h => h) (Or.inl ⟨by kernel_rfl, ?_⟩) (by assumption) ?_
  case refine_2 => (intro w hSw; (try dsimp only at hSw); obtain ⟨q0, q1, q2⟩ := hSw; go_simp; (try with_reducible rfl))
  try simp only [Act.put, List.setIfInBounds_toArray, List.set_cons_zero, List.set_cons_succ]
  refine wpAnyH_take (i := 6) (oi := ⟨some 22, _, _, _, _, _⟩) (v := ?_) rfl (by kernel_rfl) (by kernel_rfl) (by kernel_rfl) (fun _ _ _ h => h) (Or.inl ⟨by kernel_rfl, ?_⟩) (by assumption) ?_
  case refine_2 => (intro w hSw; (try dsimp only at hSw); obtain ⟨q0, q1, q2⟩ := hSw; go_simp; (try with_reducible rfl))
  try simp only [Act.put, List.setIfInBounds_toArray, List.set_cons_zero, List.set_cons_succ]
  refine wpAnyH_take (i := 7) (oi := ⟨some 23, _, _, _, _, _⟩) (v := ?_) rfl (by kernel_rfl) (by kernel_rfl) (by kernel_rfl) (fun _ _ _ h => h) (Or.inl ⟨by kernel_rfl, ?_⟩) (by assumption) ?_
  case refine_2 => (intro w hSw; (try dsimp only at hSw); obtain ⟨q0, q1, q2⟩ := hSw; go_simp; (try with_reducible rfl))
  try simp only [Act.put, List.setIfInBounds_toArray, List.set_cons_zero, List.set_cons_succ]
  refine wpAnyH_take (i := 8) (oi := ⟨some 24, _, _, _, _, _⟩) (v := ?_) rfl (by kernel_rfl) (by kernel_rfl) (by kernel_rfl) (fun _ _ _ h => h) (Or.inl ⟨by kernel_rfl, ?_⟩) (by assumption) ?_
  case refine_2 => (intro w hSw; (try dsimp only at hSw); obtain ⟨q0, q1, q2⟩ := hSw; go_simp; (try with_reducible rfl))
  try simp only [Act.put, List.setIfInBounds_toArray, List.set_cons_zero, List.set_cons_succ]
  refine wpAnyH_take (i := 9) (oi := ⟨some 25, _, _, _, _, _⟩) (v := ?_) rfl (by kernel_rfl) (by kernel_rfl) (by kernel_rfl) (fun _ _ _ h => h) (Or.inl ⟨by kernel_rfl, ?_⟩) (by assumption) ?_
  case refine_2 => (intro w hSw; (try dsimp only at hSw); obtain ⟨q0, q1, q2⟩ := hSw; go_simp; (try with_reducible rfl))
  try simp only [Act.put, List.setIfInBounds_toArray, List.set_cons_zero, List.set_cons_succ]
  refine wpAnyH_take (i := 10) (oi := ⟨some 26, _, _, _, _, _⟩) (v := ?_) rfl (by kernel_rfl) (by kernel_rfl) (by kernel_rfl) (fun _ _ _ h => h) (Or.inl ⟨by kernel_rfl, ?_⟩) (by assumption) ?_
  case refine_2 => (intro w hSw; (try dsimp only at hSw); obtain ⟨q0, q1, q2⟩ := hSw; go_simp; (try with_reducible rfl))
  try simp only [Act.put, List.setIfInBounds_toArray, List.set_cons_zero, List.set_cons_succ]
  refine wpAnyH_take (i := 11) (oi := ⟨some 27, _, _, _, _, _⟩) (v := ?_) rfl (by kernel_rfl) (by kernel_rfl) (by kernel_rfl) (fun _ _ _ h => h) (Or.inl ⟨by kernel_rfl, ?_⟩) (by assumption) ?_
  case refine_2 => (intro w hSw; (try dsimp only at hSw); obtain ⟨q0, q1, q2⟩ := hSw; go_simp; (try with_reducible rfl))
  try simp only [Act.put, List.setIfInBounds_toArray, List.set_cons_zero, List.set_cons_succ]
  refine wpAnyH_take (i := 12) (oi := ⟨some 28, _, _, _, _, _⟩) (v := ?_) rfl (by kernel_rfl) (by kernel_rfl) (by kernel_rfl) (fun _ _ _ h => h) (Or.inl ⟨by kernel_rfl, ?_⟩) (by assumption) ?_
  case refine_2 => (intro w hSw; (try dsimp only at hSw); obtain ⟨q0, q1, q2⟩ := hSw; go_simp; (try with_reducible rfl))
  try simp only [Act.put, List.setIfInBounds_toArray, List.set_cons_zero, List.set_cons_succ]
  refine wpAnyH_ready (rs := [4]) (by kernel_rfl) (by simp) ?_
  refine AllReadyH.cons rfl (fun K hK => ?_) AllReadyH.nil
  go_simp
  (go_at_call 62; refine (HK.out _ hB).mono ?_; rintro e w1 ⟨rfl, rfl⟩)
  go_wp2_with fail
  refine hK.out _ _ ?_ (fun hHeld => ?_)
  case refine_1 => (first | exact HS.out | exact (hc _).out)
  clear hK K
  try simp only [Act.put, List.setIfInBounds_toArray, List.set_cons_zero, List.set_cons_succ]
  refine wpAnyH_take (i := 13) (oi := ⟨some 29, _, _, _, _, _⟩) (v := ?_) rfl (by kernel_rfl) (by kernel_rfl) (by kernel_rfl) (fun _ _ _ h => h) (Or.inl ⟨by kernel_rfl, ?_⟩) (by assumption) ?_
  case refine_2 => (intro w hSw; (try dsimp only at hSw); obtain ⟨q0, q1, q2⟩ := hSw; go_simp; (try with_reducible rfl))
  try simp only [Act.put, List.setIfInBounds_toArray, List.set_cons_zero, List.set_cons_succ]
  refine wpAnyH_ready (rs := [14]) (by kernel_rfl) (by simp) ?_
  refine AllReadyH.cons rfl (fun K hK => ?_) AllReadyH.nil
  go_simp
  refine hK.out _ _ ?_ (fun hHeld => ?_)
  case refine_1 => (first | exact HS.out | exact (hc _).out)
  clear hK K
  try simp only [Act.put, List.setIfInBounds_toArray, List.set_cons_zero, List.set_cons_succ]
  refine wpAnyH_done (by kernel_rfl) ?_ _
  go_wp2_with fail
  exact bodyPost_ret (v := failV k fn num) (by simp [failV, results, Tryd.results43, go_sem]) rfl ⟨rfl, ((Below.refl _ _).alloc (Nat.le_refl _) _).drew⟩
end Go.Proofs.YthbnglkpkgpojaaDoor
