/-
  Contracts: strconv.Atoi and the thin package's, at every text. Printed by wip/gen_atoi.py.
-/
import Derived.Test.YtlnokggbejfocaaDoorAtoi
import Derived.Test.YtlnokggbejfocaaDoorParse
namespace Go.Proofs.YtlnokggbejfocaaDoor
open Go.RowKit
set_option maxRecDepth 100000
set_option linter.unusedVariables false
set_option linter.unusedSimpArgs false
def atText : List UInt8 := [65, 116, 111, 105]
theorem sAtoi_ok (l : List UInt8) (w : World) (hl : l.length ≤ 140737488355328) (v : Int) (h : pIe l 10 0 = (v, 0)) :
    Calls Tryd.prog 30 #[.string (str l)] w fun e w' => e = .returned (.tuple #[.int .i64 v, .nilIface]) ∧ Below w.heap.size w w' := by
  have C := iAtoi_e l w hl
  rw [h] at C
  have C := Lib.hid (show Calls Tryd.prog 40 #[.string (str l)] w fun e w' => e = .returned (.tuple #[.int .i64 v, .nilIface]) ∧ Below w.heap.size w w' from C)
  clear h
  go_enter Tryd.func30, Tryd.ntmps30
  go_wp2_with (go_at_call 40; refine C.out.mono ?_; rintro e w1 ⟨rfl, hw1⟩)
  go_ret2
  exact ⟨rfl, hw1⟩
theorem sAtoi_syn (l : List UInt8) (w : World) (hl : l.length ≤ 140737488355328) (v : Int) (h : pIe l 10 0 = (v, 2)) (aS aR : Addr) (hE : ErrT w aS aR) :
    Calls Tryd.prog 30 #[.string (str l)] w fun e w' => ∃ N, e = .returned (.tuple #[.int .i64 v, .iface 68 (.pointer (some ⟨N, 0, none⟩))]) ∧ w'.heap[N]? = some (.cells #[.string (str atText), .string (str l), .iface 94 (.pointer (some aS))] 72 (0, 0)) ∧ Below w.heap.size w w' := by
  have C := iAtoi_e l w hl
  rw [h] at C
  have C := Lib.hid (show Calls Tryd.prog 40 #[.string (str l)] w fun e w' => e = .returned (.tuple #[.int .i64 v, .iface 77 (.int .i64 2)]) ∧ Below w.heap.size w w' from C)
  have T := Lib.hid fun wx (hbx : Below w.heap.size w wx) => Tryd.strconv_toError_syntax (str atText) (str l) 0 0 _ wx (by rw [size_str]; omega) (hE.below hbx).syn.var (.inr ⟨_, _, rfl⟩)
  clear h hE
  go_enter Tryd.func30, Tryd.ntmps30
  go_wp2_with (first
    | (go_at_call 40; refine C.out.mono ?_; rintro e w1 ⟨rfl, hw1⟩)
    | (go_at_call 35; refine (T.out w1 hw1).mono ?_; rintro e w2 ⟨N, rfl, hNs, hN, hw2⟩; have HN := Lib.hid hN; clear hN))
  go_ret2
  exact ⟨N, rfl, HN.out, hw1.trans (hw2.mono hw1.size)⟩
theorem sAtoi_rng (l : List UInt8) (w : World) (hl : l.length ≤ 140737488355328) (v : Int) (h : pIe l 10 0 = (v, 1)) (aS aR : Addr) (hE : ErrT w aS aR) :
    Calls Tryd.prog 30 #[.string (str l)] w fun e w' => ∃ N, e = .returned (.tuple #[.int .i64 v, .iface 68 (.pointer (some ⟨N, 0, none⟩))]) ∧ w'.heap[N]? = some (.cells #[.string (str atText), .string (str l), .iface 94 (.pointer (some aR))] 72 (0, 0)) ∧ Below w.heap.size w w' := by
  have C := iAtoi_e l w hl
  rw [h] at C
  have C := Lib.hid (show Calls Tryd.prog 40 #[.string (str l)] w fun e w' => e = .returned (.tuple #[.int .i64 v, .iface 77 (.int .i64 1)]) ∧ Below w.heap.size w w' from C)
  have T := Lib.hid fun wx (hbx : Below w.heap.size w wx) => Tryd.strconv_toError_range (str atText) (str l) 0 0 _ wx (by rw [size_str]; omega) (hE.below hbx).rng.var (.inr ⟨_, _, rfl⟩)
  clear h hE
  go_enter Tryd.func30, Tryd.ntmps30
  go_wp2_with (first
    | (go_at_call 40; refine C.out.mono ?_; rintro e w1 ⟨rfl, hw1⟩)
    | (go_at_call 35; refine (T.out w1 hw1).mono ?_; rintro e w2 ⟨N, rfl, hNs, hN, hw2⟩; have HN := Lib.hid hN; clear hN))
  go_ret2
  exact ⟨N, rfl, HN.out, hw1.trans (hw2.mono hw1.size)⟩
theorem Atoi_ok (l : List UInt8) (w : World) (hl : l.length ≤ 140737488355328) (v : Int) (h : pIe l 10 0 = (v, 0)) :
    Calls Tryd.prog 21 #[.string (str l)] w fun e w' => e = .returned (.tuple #[.int .i64 v, failV 0 (str []) (str [])]) ∧ Below w.heap.size w w' := by
  have C := Lib.hid fun wx => sAtoi_ok l wx hl v h
  have D := Lib.hid fun wx => failure_nil wx
  clear h
  go_enter Tryd.func21, Tryd.ntmps21
  go_wp2_with (first
    | (go_at_call 30; refine (C.out _).mono ?_; rintro e w1 ⟨rfl, hw1⟩)
    | (go_at_call 26; refine (D.out w1).mono ?_; rintro e w2 ⟨rfl, hw2⟩; unfold failV; obtain ⟨hc, hf⟩ := bcell2 (show Below (w.alloc (.cells #[.int .i64 0, .string ⟨#[]⟩, .string ⟨#[]⟩] 24)).heap.size (w.alloc (.cells #[.int .i64 0, .string ⟨#[]⟩, .string ⟨#[]⟩] 24)) w2 from hw1.trans (hw2.mono hw1.size))))
  refine bodyPost_ret (v := .tuple #[.int .i64 v, failV 0 (str []) (str [])]) (by simp [failV, str, results, Tryd.results21, go_sem, hc]) rfl ⟨rfl, ?_⟩
  exact (((((Below.refl _ _).alloc (Nat.le_refl _) _).trans ((hw1.trans (hw2.mono hw1.size)).mono (by simp))).setCell (Nat.le_refl _) _).setCell (Nat.le_refl _) _).setCell (Nat.le_refl _) _
theorem Atoi_syn (l : List UInt8) (w : World) (hl : l.length ≤ 140737488355328) (v : Int) (h : pIe l 10 0 = (v, 2)) (aS aR : Addr) (hE : ErrT w aS aR) :
    Calls Tryd.prog 21 #[.string (str l)] w fun e w' => e = .returned (.tuple #[.int .i64 v, failV 1 (str atText) (str l)]) ∧ Below w.heap.size w w' := by
  have C := Lib.hid fun wx (hbx : Below w.heap.size w wx) => sAtoi_syn l wx hl v h aS aR (hE.below hbx)
  have D := Lib.hid fun wx (hbx : Below w.heap.size w wx) N (hN : wx.heap[N]? = some (.cells #[.string (str atText), .string (str l), .iface 94 (.pointer (some aS))] 72 (0, 0))) => failure_num wx N (str atText) (str l) _ 1 hN (fun wy hby => kind_syn wy aS aR (hE.below (hbx.trans (hby.mono hbx.size))))
  clear h hE
  go_enter Tryd.func21, Tryd.ntmps21
  go_wp2_with (first
    | (go_at_call 30; refine (C.out _ ((Below.refl _ _).alloc (Nat.le_refl _) _)).mono ?_; rintro e w1 ⟨N, rfl, hN, hw1⟩; have DD := Lib.hid (D.out w1 (((Below.refl _ _).alloc (Nat.le_refl _) _).trans (hw1.mono (by simp))) N hN); clear hN)
    | (go_at_call 26; refine DD.out.mono ?_; rintro e w2 ⟨rfl, hw2⟩; unfold failV; obtain ⟨hc, hf⟩ := bcell2 (show Below (w.alloc (.cells #[.int .i64 0, .string ⟨#[]⟩, .string ⟨#[]⟩] 24)).heap.size (w.alloc (.cells #[.int .i64 0, .string ⟨#[]⟩, .string ⟨#[]⟩] 24)) w2 from hw1.trans (hw2.mono hw1.size))))
  refine bodyPost_ret (v := .tuple #[.int .i64 v, failV 1 (str atText) (str l)]) (by simp [failV, str, results, Tryd.results21, go_sem, hc]) rfl ⟨rfl, ?_⟩
  exact (((((Below.refl _ _).alloc (Nat.le_refl _) _).trans ((hw1.trans (hw2.mono hw1.size)).mono (by simp))).setCell (Nat.le_refl _) _).setCell (Nat.le_refl _) _).setCell (Nat.le_refl _) _
theorem Atoi_rng (l : List UInt8) (w : World) (hl : l.length ≤ 140737488355328) (v : Int) (h : pIe l 10 0 = (v, 1)) (aS aR : Addr) (hE : ErrT w aS aR) :
    Calls Tryd.prog 21 #[.string (str l)] w fun e w' => e = .returned (.tuple #[.int .i64 v, failV 2 (str atText) (str l)]) ∧ Below w.heap.size w w' := by
  have C := Lib.hid fun wx (hbx : Below w.heap.size w wx) => sAtoi_rng l wx hl v h aS aR (hE.below hbx)
  have D := Lib.hid fun wx (hbx : Below w.heap.size w wx) N (hN : wx.heap[N]? = some (.cells #[.string (str atText), .string (str l), .iface 94 (.pointer (some aR))] 72 (0, 0))) => failure_num wx N (str atText) (str l) _ 2 hN (fun wy hby => kind_rng wy aS aR (hE.below (hbx.trans (hby.mono hbx.size))))
  clear h hE
  go_enter Tryd.func21, Tryd.ntmps21
  go_wp2_with (first
    | (go_at_call 30; refine (C.out _ ((Below.refl _ _).alloc (Nat.le_refl _) _)).mono ?_; rintro e w1 ⟨N, rfl, hN, hw1⟩; have DD := Lib.hid (D.out w1 (((Below.refl _ _).alloc (Nat.le_refl _) _).trans (hw1.mono (by simp))) N hN); clear hN)
    | (go_at_call 26; refine DD.out.mono ?_; rintro e w2 ⟨rfl, hw2⟩; unfold failV; obtain ⟨hc, hf⟩ := bcell2 (show Below (w.alloc (.cells #[.int .i64 0, .string ⟨#[]⟩, .string ⟨#[]⟩] 24)).heap.size (w.alloc (.cells #[.int .i64 0, .string ⟨#[]⟩, .string ⟨#[]⟩] 24)) w2 from hw1.trans (hw2.mono hw1.size))))
  refine bodyPost_ret (v := .tuple #[.int .i64 v, failV 2 (str atText) (str l)]) (by simp [failV, str, results, Tryd.results21, go_sem, hc]) rfl ⟨rfl, ?_⟩
  exact (((((Below.refl _ _).alloc (Nat.le_refl _) _).trans ((hw1.trans (hw2.mono hw1.size)).mono (by simp))).setCell (Nat.le_refl _) _).setCell (Nat.le_refl _) _).setCell (Nat.le_refl _) _
theorem Atoi_any (l : List UInt8) (w : World) (hl : l.length ≤ 140737488355328) (aS aR : Addr) (hE : ErrT w aS aR) :
    Calls Tryd.prog 21 #[.string (str l)] w fun e w' => e = .returned (.tuple #[.int .i64 (pIe l 10 0).1, failOf (pIe l 10 0).2 atText l]) ∧ Below w.heap.size w w' := by
  have hk := pIe_code l 10 0
  obtain ⟨r, hr⟩ : ∃ r, r = pIe l 10 0 := ⟨_, rfl⟩
  rw [← hr] at hk ⊢
  obtain ⟨v, k⟩ := r
  simp only at hk ⊢
  rcases hk with rfl | rfl | rfl
  · exact Atoi_ok l w hl v hr.symm
  · exact Atoi_rng l w hl v hr.symm aS aR hE
  · exact Atoi_syn l w hl v hr.symm aS aR hE
end Go.Proofs.YtlnokggbejfocaaDoor
