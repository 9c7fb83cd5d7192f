/-
  Contracts: the text of a NumError (strconv) and impl.ErrorText. Printed by wip/gen/errtext.py.
-/
import Derived.Test.YthbnglkpkgpojaaDoorQuotes
import Derived.Test.YthbnglkpkgpojaaDoorNumErr
import Derived.Deep.RegionHeld3
import Derived.Outline
namespace Go.Proofs.YthbnglkpkgpojaaDoor
open Go.RowKit
set_option maxRecDepth 100000
set_option linter.unusedVariables false
set_option linter.unusedSimpArgs false
theorem esError_any (w : World) (a : Addr) (s : ByteArray) (hc : w.cell? a = some (.string s)) : Calls Tryd.prog 121 #[.pointer (some a)] w fun e w' => e = .returned (.string s) ∧ w = w' := by
  obtain ⟨b, o, p⟩ := a
  go_enter Tryd.func121, Tryd.ntmps121
  go_wp2
  go_ret
  exact ⟨rfl, rfl⟩
theorem meth_any (n : Nat) (a : Addr) (W : World) : (method (n + 1) 112 (.pointer (some a)) "Error").run Tryd.prog W = .ok (121, .pointer (some a)) W := by kernel_rfl
/-- the text of an error -/
def errTextL (fn q reason : List UInt8) : List UInt8 := [115, 116, 114, 99, 111, 110, 118, 46] ++ fn ++ [58, 32] ++ [112, 97, 114, 115, 105, 110, 103, 32] ++ q ++ [58, 32] ++ reason
set_option maxHeartbeats 4000000 in
theorem numErrText_any (w : World) (N : Nat) (fn num reason : List UInt8) (a : Addr) (hN : w.heap[N]? = some (.cells #[.string (str fn), .string (str num), .iface 112 (.pointer (some a))] 74 (0, 0)))
    (ha : w.cell? a = some (.string (str reason))) (hf : fn.length ≤ 10485760) (hn : num.length ≤ 10485760) (hr : reason.length ≤ 1000) (hT : PrintT w) (hG : GraphicT w) (hU : Utf8T w) :
    Calls Tryd.prog 45 #[.pointer (some ⟨N, 0, none⟩)] w fun e w' => e = .returned (.string (str (errTextL fn (quoteL 34 (stP false) (elemsOf num)) reason))) ∧ Below w.heap.size w w' := by
  have hlt : N < w.heap.size := (Array.getElem?_eq_some_iff.1 hN).1
  have halt : a.block < w.heap.size := World.block_lt_of_cell? _ _ ha
  have c0 : w.cell? ⟨N, 0, none⟩ = some (.string (str fn)) ∧ w.cell? ⟨N, 1, none⟩ = some (.string (str num)) ∧ w.cell? ⟨N, 2, none⟩ = some (.iface 112 (.pointer (some a))) := by
    refine ⟨?_, ?_, ?_⟩ <;> simp [World.cell?, hN]
  have HS := Lib.hid (show ∀ wx, Below w.heap.size w wx → wx.cell? ⟨N, 0, none⟩ = some (.string (str fn)) ∧ wx.cell? ⟨N, 1, none⟩ = some (.string (str num)) ∧ wx.cell? ⟨N, 2, none⟩ = some (.iface 112 (.pointer (some a))) from fun wx hb => by
    rw [hb.cell (p := ⟨N, 0, none⟩) hlt, hb.cell (p := ⟨N, 1, none⟩) hlt, hb.cell (p := ⟨N, 2, none⟩) hlt]; exact c0)
  have Q := Lib.hid (show ∀ wx, Below w.heap.size w wx → Calls Tryd.prog 34 #[.string (str num)] wx fun e w' => e = .returned (.string (str (quoteL 34 (stP false) (elemsOf num)))) ∧ Below w.heap.size w w' from fun wx hb => (sQuote_any num wx hn (hT.below hb) (hG.below hb) (hU.below hb)).mono fun e w' ⟨h1, h2⟩ => ⟨h1, hb.trans (h2.mono hb.size)⟩)
  have EE := Lib.hid (show ∀ wx, Below w.heap.size w wx → Calls Tryd.prog 121 #[.pointer (some a)] wx fun e w' => e = .returned (.string (str reason)) ∧ wx = w' from fun wx hb => esError_any wx a _ (by rw [hb.cell halt]; exact ha))
  have ql := quoteL_length 34 (stP false) (elemsOf num)
  have qe := elemsOf_length num
  obtain ⟨q, hq⟩ : ∃ q, q = quoteL 34 (stP false) (elemsOf num) := ⟨_, rfl⟩
  rw [← hq] at Q ql ⊢
  have k1 : (ByteArray.mk #[115, 116, 114, 99, 111, 110, 118, 46]) ++ str fn = str ([115, 116, 114, 99, 111, 110, 118, 46] ++ fn) := str_append [115, 116, 114, 99, 111, 110, 118, 46] fn
  obtain ⟨X1, e1⟩ : ∃ X, X = [115, 116, 114, 99, 111, 110, 118, 46] ++ fn := ⟨_, rfl⟩
  have k2 : str X1 ++ (ByteArray.mk #[58, 32]) = str (X1 ++ [58, 32]) := str_append X1 [58, 32]
  obtain ⟨X2, e2⟩ : ∃ X, X = X1 ++ [58, 32] := ⟨_, rfl⟩
  have k3 : str X2 ++ (ByteArray.mk #[112, 97, 114, 115, 105, 110, 103, 32]) = str (X2 ++ [112, 97, 114, 115, 105, 110, 103, 32]) := str_append X2 [112, 97, 114, 115, 105, 110, 103, 32]
  obtain ⟨X3, e3⟩ : ∃ X, X = X2 ++ [112, 97, 114, 115, 105, 110, 103, 32] := ⟨_, rfl⟩
  have k4 : str X3 ++ str q = str (X3 ++ q) := str_append X3 q
  obtain ⟨X4, e4⟩ : ∃ X, X = X3 ++ q := ⟨_, rfl⟩
  have k5 : str X4 ++ (ByteArray.mk #[58, 32]) = str (X4 ++ [58, 32]) := str_append X4 [58, 32]
  obtain ⟨X5, e5⟩ : ∃ X, X = X4 ++ [58, 32] := ⟨_, rfl⟩
  have k6 : str X5 ++ str reason = str (X5 ++ reason) := str_append X5 reason
  obtain ⟨X6, e6⟩ : ∃ X, X = X5 ++ reason := ⟨_, rfl⟩
  have HE := Lib.hid (show errTextL fn q reason = X6 by rw [errTextL, e6, e5, e4, e3, e2, e1])
  have l1 : X1.length = 8 + fn.length := by rw [e1]; simp; omega
  have l2 : X2.length = 10 + fn.length := by rw [e2]; simp; omega
  have l3 : X3.length = 18 + fn.length := by rw [e3]; simp; omega
  have l4 : X4.length = 18 + fn.length + q.length := by rw [e4]; simp; omega
  have l5 : X5.length = 20 + fn.length + q.length := by rw [e5]; simp; omega
  have z1 : ¬ 9223372036854775807 < (str [115, 116, 114, 99, 111, 110, 118, 46]).size + (str fn).size := by rw [size_str, size_str]; simp; omega
  have z2 : ¬ 9223372036854775807 < (str X1).size + (str [58, 32]).size := by rw [size_str, size_str]; simp; omega
  have z3 : ¬ 9223372036854775807 < (str X2).size + (str [112, 97, 114, 115, 105, 110, 103, 32]).size := by rw [size_str, size_str]; simp; omega
  have z4 : ¬ 9223372036854775807 < (str X3).size + (str q).size := by rw [size_str, size_str]; omega
  have z5 : ¬ 9223372036854775807 < (str X4).size + (str [58, 32]).size := by rw [size_str, size_str]; simp; omega
  have z6 : ¬ 9223372036854775807 < (str X5).size + (str reason).size := by rw [size_str, size_str]; omega
  have z1' : ¬ 9223372036854775807 < 8 + (str fn).size := by rw [size_str]; omega
  have z2' : ¬ 9223372036854775807 < (str X1).size + 2 := by rw [size_str]; omega
  have z3' : ¬ 9223372036854775807 < (str X2).size + 8 := by rw [size_str]; omega
  have z5' : ¬ 9223372036854775807 < (str X4).size + 2 := by rw [size_str]; omega
  rw [← e1] at k1
  rw [← e2] at k2
  rw [← e3] at k3
  rw [← e4] at k4
  rw [← e5] at k5
  rw [← e6] at k6
  have hS0 := HS.out _ ((Below.refl _ _).drew)
  clear hN ha c0 hT hG hU hq ql qe e1 e2 e3 e4 e5 e6 l1 l2 l3 l4 l5 hf hn hr
  go_enter Tryd.func45, Tryd.ntmps45
  go_wp2_with fail
  refine wp_region_held_drew (S := fun w' => w'.cell? ⟨N, 0, none⟩ = some (.string (str fn)) ∧ w'.cell? ⟨N, 1, none⟩ = some (.string (str num)) ∧ w'.cell? ⟨N, 2, none⟩ = some (.iface 112 (.pointer (some a)))) (by kernel_rfl) hS0 (fun hHeld => ?_)
  refine wpAnyH_take (i := 0) (oi := ⟨some 3, _, _, _, _, _⟩) (v := ?_) rfl (by kernel_rfl) (by kernel_rfl) (by kernel_rfl) (fun _ _ _ h => h) (Or.inl ⟨by kernel_rfl, ?_⟩) (by assumption) ?_
  case refine_2 => (intro w hSw; (try dsimp only at hSw); obtain ⟨q0, q1, q2⟩ := hSw; go_simp; (try with_reducible rfl))
  try simp only [Act.put, List.setIfInBounds_toArray, List.set_cons_zero, List.set_cons_succ]
  refine wpAnyH_take (i := 1) (oi := ⟨some 4, _, _, _, _, _⟩) (v := ?_) rfl (by kernel_rfl) (by kernel_rfl) (by kernel_rfl) (fun _ _ _ h => h) (Or.inl ⟨by kernel_rfl, ?_⟩) (by assumption) ?_
  case refine_2 => (intro w hSw; (try dsimp only at hSw); obtain ⟨q0, q1, q2⟩ := hSw; go_simp; (try with_reducible rfl))
  try simp only [Act.put, List.setIfInBounds_toArray, List.set_cons_zero, List.set_cons_succ]
  refine wpAnyH_take (i := 2) (oi := ⟨some 5, _, _, _, _, _⟩) (v := ?_) rfl (by kernel_rfl) (by kernel_rfl) (by kernel_rfl) (fun _ _ _ h => h) (Or.inl ⟨by kernel_rfl, ?_⟩) (by assumption) ?_
  case refine_2 => (intro w hSw; (try dsimp only at hSw); obtain ⟨q0, q1, q2⟩ := hSw; go_simp; (try with_reducible rfl))
  try simp only [Act.put, List.setIfInBounds_toArray, List.set_cons_zero, List.set_cons_succ]
  refine wpAnyH_take (i := 3) (oi := ⟨some 6, _, _, _, _, _⟩) (v := ?_) rfl (by kernel_rfl) (by kernel_rfl) (by kernel_rfl) (fun _ _ _ h => h) (Or.inl ⟨by kernel_rfl, ?_⟩) (by assumption) ?_
  case refine_2 => (intro w hSw; (try dsimp only at hSw); obtain ⟨q0, q1, q2⟩ := hSw; go_simp; (try with_reducible rfl))
  try simp only [Act.put, List.setIfInBounds_toArray, List.set_cons_zero, List.set_cons_succ]
  refine wpAnyH_take (i := 4) (oi := ⟨some 7, _, _, _, _, _⟩) (v := ?_) rfl (by kernel_rfl) (by kernel_rfl) (by kernel_rfl) (fun _ _ _ h => h) (Or.inl ⟨by kernel_rfl, ?_⟩) (by assumption) ?_
  case refine_2 => (intro w hSw; (try dsimp only at hSw); obtain ⟨q0, q1, q2⟩ := hSw; go_simp; (try with_reducible rfl))
  try simp only [Act.put, List.setIfInBounds_toArray, List.set_cons_zero, List.set_cons_succ]
  refine wpAnyH_take (i := 5) (oi := ⟨some 8, _, _, _, _, _⟩) (v := ?_) rfl (by kernel_rfl) (by kernel_rfl) (by kernel_rfl) (fun _ _ _ h => h) (Or.inl ⟨by kernel_rfl, ?_⟩) (by assumption) ?_
  case refine_2 => (intro w hSw; (try dsimp only at hSw); obtain ⟨q0, q1, q2⟩ := hSw; go_simp; (try with_reducible rfl))
  try simp only [Act.put, List.setIfInBounds_toArray, List.set_cons_zero, List.set_cons_succ]
  refine wpAnyH_take (i := 6) (oi := ⟨some 9, _, _, _, _, _⟩) (v := ?_) rfl (by kernel_rfl) (by kernel_rfl) (by kernel_rfl) (fun _ _ _ h => h) (Or.inl ⟨by kernel_rfl, ?_⟩) (by assumption) ?_
  case refine_2 => (intro w hSw; (try dsimp only at hSw); obtain ⟨q0, q1, q2⟩ := hSw; go_simp; (try with_reducible rfl))
  try simp only [Act.put, List.setIfInBounds_toArray, List.set_cons_zero, List.set_cons_succ]
  refine wpAnyH_take (i := 7) (oi := ⟨some 10, _, _, _, _, _⟩) (v := ?_) rfl (by kernel_rfl) (by kernel_rfl) (by kernel_rfl) (fun _ _ _ h => h) (Or.inl ⟨by kernel_rfl, ?_⟩) (by assumption) ?_
  case refine_2 => (intro w hSw; (try dsimp only at hSw); obtain ⟨q0, q1, q2⟩ := hSw; go_simp; (try with_reducible rfl))
  try simp only [Act.put, List.setIfInBounds_toArray, List.set_cons_zero, List.set_cons_succ]
  refine wpAnyH_take (i := 8) (oi := ⟨some 11, _, _, _, _, _⟩) (v := ?_) rfl (by kernel_rfl) (by kernel_rfl) (by kernel_rfl) (fun _ _ _ h => h) (Or.inl ⟨by kernel_rfl, ?_⟩) (by assumption) ?_
  case refine_2 => (intro w hSw; (try dsimp only at hSw); obtain ⟨q0, q1, q2⟩ := hSw; go_simp; (try with_reducible rfl))
  try simp only [Act.put, List.setIfInBounds_toArray, List.set_cons_zero, List.set_cons_succ]
  refine wpAnyH_take (i := 9) (oi := ⟨some 12, _, _, _, _, _⟩) (v := ?_) rfl (by kernel_rfl) (by kernel_rfl) (by kernel_rfl) (fun _ _ _ h => h) (Or.inl ⟨by kernel_rfl, ?_⟩) (by assumption) ?_
  case refine_2 => (intro w hSw; (try dsimp only at hSw); obtain ⟨q0, q1, q2⟩ := hSw; go_simp; (try with_reducible rfl))
  try simp only [Act.put, List.setIfInBounds_toArray, List.set_cons_zero, List.set_cons_succ]
  refine wpAnyH_take (i := 10) (oi := ⟨some 13, _, _, _, _, _⟩) (v := ?_) rfl (by kernel_rfl) (by kernel_rfl) (by kernel_rfl) (fun _ _ _ h => h) (Or.inl ⟨by kernel_rfl, ?_⟩) (by assumption) ?_
  case refine_2 => (intro w hSw; (try dsimp only at hSw); obtain ⟨q0, q1, q2⟩ := hSw; go_simp; (try with_reducible rfl))
  try simp only [Act.put, List.setIfInBounds_toArray, List.set_cons_zero, List.set_cons_succ]
  refine wpAnyH_take (i := 14) (oi := ⟨some 17, _, _, _, _, _⟩) (v := ?_) rfl (by kernel_rfl) (by kernel_rfl) (by kernel_rfl) (fun _ _ _ h => h) (Or.inl ⟨by kernel_rfl, ?_⟩) (by assumption) ?_
  case refine_2 => (intro w hSw; (try dsimp only at hSw); obtain ⟨q0, q1, q2⟩ := hSw; go_simp; (try with_reducible rfl))
  try simp only [Act.put, List.setIfInBounds_toArray, List.set_cons_zero, List.set_cons_succ]
  refine wpAnyH_take (i := 15) (oi := ⟨some 18, _, _, _, _, _⟩) (v := ?_) rfl (by kernel_rfl) (by kernel_rfl) (by kernel_rfl) (fun _ _ _ h => h) (Or.inl ⟨by kernel_rfl, ?_⟩) (by assumption) ?_
  case refine_2 => (intro w hSw; (try dsimp only at hSw); obtain ⟨q0, q1, q2⟩ := hSw; go_simp; (try with_reducible rfl))
  try simp only [Act.put, List.setIfInBounds_toArray, List.set_cons_zero, List.set_cons_succ]
  refine wpAnyH_take (i := 16) (oi := ⟨some 19, _, _, _, _, _⟩) (v := ?_) rfl (by kernel_rfl) (by kernel_rfl) (by kernel_rfl) (fun _ _ _ h => h) (Or.inl ⟨by kernel_rfl, ?_⟩) (by assumption) ?_
  case refine_2 => (intro w hSw; (try dsimp only at hSw); obtain ⟨q0, q1, q2⟩ := hSw; go_simp; (try with_reducible rfl))
  try simp only [Act.put, List.setIfInBounds_toArray, List.set_cons_zero, List.set_cons_succ]
  refine wpAnyH_take (i := 17) (oi := ⟨some 20, _, _, _, _, _⟩) (v := ?_) rfl (by kernel_rfl) (by kernel_rfl) (by kernel_rfl) (fun _ _ _ h => h) (Or.inl ⟨by kernel_rfl, ?_⟩) (by assumption) ?_
  case refine_2 => (intro w hSw; (try dsimp only at hSw); obtain ⟨q0, q1, q2⟩ := hSw; go_simp; (try with_reducible rfl))
  try simp only [Act.put, List.setIfInBounds_toArray, List.set_cons_zero, List.set_cons_succ]
  refine wpAnyH_ready (rs := [11]) (by kernel_rfl) (by simp) ?_
  refine AllReadyH.cons rfl (fun K hK => ?_) AllReadyH.nil
  go_simp
  (go_at_call 34; refine (Q.out _ ((Below.refl _ _).drew)).mono ?_; rintro e w1 ⟨rfl, hb1⟩)
  go_wp2_with fail
  refine hK.out _ _ ?_ (fun hHeld => ?_)
  case refine_1 => (exact HS.out _ (by first | exact hb1 | exact (Below.refl _ _).drew))
  clear hK K
  try simp only [Act.put, List.setIfInBounds_toArray, List.set_cons_zero, List.set_cons_succ]
  refine wpAnyH_take (i := 12) (oi := ⟨some 15, _, _, _, _, _⟩) (v := ?_) rfl (by kernel_rfl) (by kernel_rfl) (by kernel_rfl) (fun _ _ _ h => h) (Or.inl ⟨by kernel_rfl, ?_⟩) (by assumption) ?_
  case refine_2 => (intro w hSw; (try dsimp only at hSw); obtain ⟨q0, q1, q2⟩ := hSw; go_simp; (try with_reducible rfl))
  try simp only [Act.put, List.setIfInBounds_toArray, List.set_cons_zero, List.set_cons_succ]
  refine wpAnyH_take (i := 13) (oi := ⟨some 16, _, _, _, _, _⟩) (v := ?_) rfl (by kernel_rfl) (by kernel_rfl) (by kernel_rfl) (fun _ _ _ h => h) (Or.inl ⟨by kernel_rfl, ?_⟩) (by assumption) ?_
  case refine_2 => (intro w hSw; (try dsimp only at hSw); obtain ⟨q0, q1, q2⟩ := hSw; go_simp; (try with_reducible rfl))
  try simp only [Act.put, List.setIfInBounds_toArray, List.set_cons_zero, List.set_cons_succ]
  refine wpAnyH_ready (rs := [18]) (by kernel_rfl) (by simp) ?_
  refine AllReadyH.cons rfl (fun K hK => ?_) AllReadyH.nil
  go_simp
  (rw [meth_any]; go_simp; go_at_call 121; refine (EE.out _ hb1).mono ?_; rintro e w2 ⟨rfl, rfl⟩)
  go_wp2_with fail
  refine hK.out _ _ ?_ (fun hHeld => ?_)
  case refine_1 => (exact HS.out _ (by first | exact hb1 | exact (Below.refl _ _).drew))
  clear hK K
  try simp only [Act.put, List.setIfInBounds_toArray, List.set_cons_zero, List.set_cons_succ]
  refine wpAnyH_take (i := 19) (oi := ⟨some 22, _, _, _, _, _⟩) (v := ?_) rfl (by kernel_rfl) (by kernel_rfl) (by kernel_rfl) (fun _ _ _ h => h) (Or.inl ⟨by kernel_rfl, ?_⟩) (by assumption) ?_
  case refine_2 => (intro w hSw; (try dsimp only at hSw); obtain ⟨q0, q1, q2⟩ := hSw; go_simp; (try with_reducible rfl))
  try simp only [Act.put, List.setIfInBounds_toArray, List.set_cons_zero, List.set_cons_succ]
  refine wpAnyH_take (i := 20) (oi := ⟨some 2, _, _, _, _, _⟩) (v := ?_) rfl (by kernel_rfl) (by kernel_rfl) (by kernel_rfl) (fun _ _ _ h => h) (Or.inl ⟨by kernel_rfl, ?_⟩) (by assumption) ?_
  case refine_2 => (intro w hSw; (try dsimp only at hSw); obtain ⟨q0, q1, q2⟩ := hSw; go_simp; (try with_reducible rfl))
  try simp only [Act.put, List.setIfInBounds_toArray, List.set_cons_zero, List.set_cons_succ]
  refine wpAnyH_done (by kernel_rfl) ?_ _
  go_wp2_with fail
  go_ret
  exact ⟨by rw [HE.out]; rfl, hb1⟩
/-- the reason that a number tells -/
def reasonL (k : Int) : List UInt8 := if k = 1 then synText else rngText
theorem sent_cell {w : World} {g : Nat} {a : Addr} {text : List UInt8} (h : Sent w g a text) : w.cell? a = some (.string (str text)) := by
  obtain ⟨s, h1, h2⟩ := h.str
  rw [h1, ← h2]; rfl
theorem push_at (w : World) (o : Obj) : (w.alloc o).heap[w.heap.size]? = some o := by
  show (w.heap.push o)[w.heap.size]? = _
  simp
set_option maxHeartbeats 1000000 in
theorem ErrorText_any (w : World) (aS aR : Addr) (hE : ErrT w aS aR) (fn num : List UInt8) (k : Int) (hf : fn.length ≤ 10485760) (hn : num.length ≤ 10485760) (hT : PrintT w) (hG : GraphicT w) (hU : Utf8T w) :
    Calls Tryd.prog 25 #[.string (str fn), .string (str num), .int .i64 k] w fun e w' => e = .returned (.string (str (errTextL fn (quoteL 34 (stP false) (elemsOf num)) (reasonL k)))) ∧ Below w.heap.size w w' := by
  by_cases hk : k = 1
  · have C := Lib.hid (numError_syn w aS aR hE (str fn) (str num) k hk)
    have hb : ∀ o, Below w.heap.size w (w.alloc o) := fun o => (Below.refl _ _).alloc (Nat.le_refl _) o
    have D := Lib.hid (numErrText_any _ w.heap.size fn num synText aS (push_at w (.cells #[.string (str fn), .string (str num), .iface 112 (.pointer (some aS))] 74)) (sent_cell (hE.below (hb _)).syn) hf hn (by decide) (hT.below (hb _)) (hG.below (hb _)) (hU.below (hb _)))
    rw [reasonL, if_pos hk]
    generalize errTextL fn (quoteL 34 (stP false) (elemsOf num)) synText = L at *
    clear hT hG hU hE hk hf hn
    go_enter Tryd.func25, Tryd.ntmps25
    go_wp2_with fail
    refine C.out.mono ?_
    rintro e w1 ⟨rfl, rfl⟩
    go_wp2_with fail
    refine D.out.mono ?_
    rintro e w2 ⟨rfl, hw2⟩
    go_wp2_with fail
    go_ret
    exact ⟨rfl, (hb _).trans (hw2.mono (by simp))⟩
  · have C := Lib.hid (numError_rng w aS aR hE (str fn) (str num) k hk)
    have hb : ∀ o, Below w.heap.size w (w.alloc o) := fun o => (Below.refl _ _).alloc (Nat.le_refl _) o
    have D := Lib.hid (numErrText_any _ w.heap.size fn num rngText aR (push_at w (.cells #[.string (str fn), .string (str num), .iface 112 (.pointer (some aR))] 74)) (sent_cell (hE.below (hb _)).rng) hf hn (by decide) (hT.below (hb _)) (hG.below (hb _)) (hU.below (hb _)))
    rw [reasonL, if_neg hk]
    generalize errTextL fn (quoteL 34 (stP false) (elemsOf num)) rngText = L at *
    clear hT hG hU hE hk hf hn
    go_enter Tryd.func25, Tryd.ntmps25
    go_wp2_with fail
    refine C.out.mono ?_
    rintro e w1 ⟨rfl, rfl⟩
    go_wp2_with fail
    refine D.out.mono ?_
    rintro e w2 ⟨rfl, hw2⟩
    go_wp2_with fail
    go_ret
    exact ⟨rfl, (hb _).trans (hw2.mono (by simp))⟩
end Go.Proofs.YthbnglkpkgpojaaDoor
