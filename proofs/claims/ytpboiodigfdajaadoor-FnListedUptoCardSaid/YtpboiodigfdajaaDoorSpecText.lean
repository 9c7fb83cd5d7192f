/-
  Contracts: spec.Encode, spec.Hex, spec.Escape write what the plain functions encL, hexL, escL say.
-/
import Derived.Test.YtpboiodigfdajaaDoorOwn
import Derived.Test.YtpboiodigfdajaaDoorPlainQuote
import Derived.LoopN
namespace Go.Proofs.YtpboiodigfdajaaDoor
open Go.RowKit
set_option linter.unusedSimpArgs false
set_option linter.unusedVariables false
theorem reads_new (w : World) (l : List UInt8) : Reads (w.alloc (.cells (bcells l).toArray 5)) (w.heap.size + 1) 1 (some ⟨w.heap.size, 0, none⟩) l.length (bcells l) := by
  refine ⟨by rw [bcells_length]; omega, fun _ => ⟨_, rfl, by simp, fun j u hu => ?_⟩⟩
  have : (⟨w.heap.size, 0, none⟩ : Addr).add j = ⟨w.heap.size, j, none⟩ := by unfold Addr.add; split <;> simp_all
  rw [this, World.cell?_alloc_new]
  simpa using hu
/-- string([]byte{..}) -/
theorem conv_new (w : World) (xs : Array Value) (l : List UInt8) (h : xs = (bcells l).toArray) (n c : Nat) (hn : n = l.length) :
    (convert 30 9 (.slice (some ⟨w.heap.size, 0, none⟩) n c)).run Tryd.prog (w.alloc (.cells xs 5)) = .ok (.string (str l)) (w.alloc (.cells xs 5)) := by
  subst h hn
  exact run_convert_reads (P := Tryd.prog) _ 30 5 9 Tryd.underlying30 Tryd.underlying5 Tryd.underlying9 c (reads_new w l)
theorem b1 {x : Int} (h : 0 ≤ x ∧ x ≤ 255) : Value.int .u8 x = Value.int .u8 ((byteZ x).toNat : Int) := by rw [byteZ_toNat h.1 h.2]
theorem encode_any (r : Int) (w : World) (h0 : 0 ≤ r) (h1 : r ≤ 1114111) : Calls Tryd.prog 30 #[.int .i32 r] w fun e w' => e = .returned (.string (str (encL r))) ∧ Below w.heap.size w w' := by
  by_cases c1 : r < 128
  · have hcv := conv_new w #[.int .u8 r] (encL r) (by rw [b1 (x := r) (by omega)]; simp only [encL, if_pos c1, bcells, List.map_cons, List.map_nil]) 1 1 (by simp only [encL, if_pos c1, List.length_cons, List.length_nil])
    go_enter Tryd.func30, Tryd.ntmps30
    go_wp2
    go_ret
    exact ⟨rfl, (Below.refl _ _).alloc (Nat.le_refl _) _⟩
  by_cases c2 : r < 2048
  · have hcv := conv_new w #[.int .u8 (192 + r / 64), .int .u8 (128 + r % 64)] (encL r) (by rw [b1 (x := 192 + r / 64) (by omega), b1 (x := 128 + r % 64) (by omega)]; simp only [encL, if_neg c1, if_pos c2, bcells, List.map_cons, List.map_nil]) 2 2 (by simp only [encL, if_neg c1, if_pos c2, List.length_cons, List.length_nil])
    go_enter Tryd.func30, Tryd.ntmps30
    go_wp2
    go_ret
    exact ⟨rfl, (Below.refl _ _).alloc (Nat.le_refl _) _⟩
  by_cases c3 : r < 65536
  · have hcv := conv_new w #[.int .u8 (224 + r / 4096), .int .u8 (128 + r / 64 % 64), .int .u8 (128 + r % 64)] (encL r) (by rw [b1 (x := 224 + r / 4096) (by omega), b1 (x := 128 + r / 64 % 64) (by omega), b1 (x := 128 + r % 64) (by omega)]; simp only [encL, if_neg c1, if_neg c2, if_pos c3, bcells, List.map_cons, List.map_nil]) 3 3 (by simp only [encL, if_neg c1, if_neg c2, if_pos c3, List.length_cons, List.length_nil])
    go_enter Tryd.func30, Tryd.ntmps30
    go_wp2
    go_ret
    exact ⟨rfl, (Below.refl _ _).alloc (Nat.le_refl _) _⟩
  · have hcv := conv_new w #[.int .u8 (240 + r / 262144), .int .u8 (128 + r / 4096 % 64), .int .u8 (128 + r / 64 % 64), .int .u8 (128 + r % 64)] (encL r) (by rw [b1 (x := 240 + r / 262144) (by omega), b1 (x := 128 + r / 4096 % 64) (by omega), b1 (x := 128 + r / 64 % 64) (by omega), b1 (x := 128 + r % 64) (by omega)]; simp only [encL, if_neg c1, if_neg c2, if_neg c3, bcells, List.map_cons, List.map_nil]) 4 4 (by simp only [encL, if_neg c1, if_neg c2, if_neg c3, List.length_cons, List.length_nil])
    go_enter Tryd.func30, Tryd.ntmps30
    go_wp2
    go_ret
    exact ⟨rfl, (Below.refl _ _).alloc (Nat.le_refl _) _⟩
/-- the digits' text, read at a place -/
theorem hexAt (x : Nat) (h : x < 16) : ((Lib.lowerhex[x]'h).toNat : Int) = ((hexB x).toNat : Int) := by rw [Lib.lowerhex_at, hexB_toNat h]
set_option maxHeartbeats 2000000 in
theorem hex2_any (k : Nat) (w : World) (h1 : k < 256) : Calls Tryd.prog 53 #[.int .i32 (k : Int), .int .i64 2] w fun e w' => e = .returned (.string (str (hexL k 2))) ∧ Below w.heap.size w w' := by
  have hmk : ∀ u : World, (Instr.makeSlice 30 (.int .i64 2) (.int .i64 2)).run Tryd.prog u = .ok (.slice (some ⟨u.heap.size, 0, none⟩) 2 2) (u.alloc (.cells #[.int .u8 0, .int .u8 0] 5)) := fun u => by kernel_rfl
  go_enter Tryd.func53, Tryd.ntmps53
  go_wp2
  refine wp_loop_rounds 3 ?_
  rw [rounds_succ]
  go_wp2
  rw [rounds_succ]
  go_wp2
  rw [rounds_succ]
  go_wp2
  rw [conv_new w _ (hexL k 2) ?hx 2 2 (by simp [hexL])]
  case hx =>
    simp only [bcells, hexL, List.map_cons, List.map_nil, hexAt, Nat.div_div_eq_div_mul, Nat.reduceMul, Nat.reducePow, Nat.div_one]
  go_wp2
  go_ret
  exact ⟨rfl, (Below.refl _ _).alloc (Nat.le_refl _) _⟩
set_option maxHeartbeats 2000000 in
theorem hex4_any (k : Nat) (w : World) (h1 : k < 65536) : Calls Tryd.prog 53 #[.int .i32 (k : Int), .int .i64 4] w fun e w' => e = .returned (.string (str (hexL k 4))) ∧ Below w.heap.size w w' := by
  have hmk : ∀ u : World, (Instr.makeSlice 30 (.int .i64 4) (.int .i64 4)).run Tryd.prog u = .ok (.slice (some ⟨u.heap.size, 0, none⟩) 4 4) (u.alloc (.cells #[.int .u8 0, .int .u8 0, .int .u8 0, .int .u8 0] 5)) := fun u => by kernel_rfl
  go_enter Tryd.func53, Tryd.ntmps53
  go_wp2
  refine wp_loop_rounds 5 ?_
  rw [rounds_succ]
  go_wp2
  rw [rounds_succ]
  go_wp2
  rw [rounds_succ]
  go_wp2
  rw [rounds_succ]
  go_wp2
  rw [rounds_succ]
  go_wp2
  rw [conv_new w _ (hexL k 4) ?hx 4 4 (by simp [hexL])]
  case hx =>
    simp only [bcells, hexL, List.map_cons, List.map_nil, hexAt, Nat.div_div_eq_div_mul, Nat.reduceMul, Nat.reducePow, Nat.div_one]
  go_wp2
  go_ret
  exact ⟨rfl, (Below.refl _ _).alloc (Nat.le_refl _) _⟩
set_option maxHeartbeats 2000000 in
theorem hex8_any (k : Nat) (w : World) (h1 : k < 2147483648) : Calls Tryd.prog 53 #[.int .i32 (k : Int), .int .i64 8] w fun e w' => e = .returned (.string (str (hexL k 8))) ∧ Below w.heap.size w w' := by
  have hmk : ∀ u : World, (Instr.makeSlice 30 (.int .i64 8) (.int .i64 8)).run Tryd.prog u = .ok (.slice (some ⟨u.heap.size, 0, none⟩) 8 8) (u.alloc (.cells #[.int .u8 0, .int .u8 0, .int .u8 0, .int .u8 0, .int .u8 0, .int .u8 0, .int .u8 0, .int .u8 0] 5)) := fun u => by kernel_rfl
  go_enter Tryd.func53, Tryd.ntmps53
  go_wp2
  refine wp_loop_rounds 9 ?_
  rw [rounds_succ]
  go_wp2
  rw [rounds_succ]
  go_wp2
  rw [rounds_succ]
  go_wp2
  rw [rounds_succ]
  go_wp2
  rw [rounds_succ]
  go_wp2
  rw [rounds_succ]
  go_wp2
  rw [rounds_succ]
  go_wp2
  rw [rounds_succ]
  go_wp2
  rw [rounds_succ]
  go_wp2
  rw [conv_new w _ (hexL k 8) ?hx 8 8 (by simp [hexL])]
  case hx =>
    simp only [bcells, hexL, List.map_cons, List.map_nil, hexAt, Nat.div_div_eq_div_mul, Nat.reduceMul, Nat.reducePow, Nat.div_one]
  go_wp2
  go_ret
  exact ⟨rfl, (Below.refl _ _).alloc (Nat.le_refl _) _⟩
theorem wrapNeg (r : Int) (h0 : -256 ≤ r) (h1 : r < 0) : (((-1 - r).toNat : Nat) : Int) = -1 - r := by omega
set_option maxHeartbeats 1000000 in
theorem escape_any (r : Int) (w : World) (h0 : -256 ≤ r) (h1 : r ≤ 1114111) : Calls Tryd.prog 36 #[.int .i32 r] w fun e w' => e = .returned (.string (str (escL r))) ∧ Below w.heap.size w w' := by
  by_cases h7 : r = 7 ∨ r = 8 ∨ r = 12 ∨ r = 10 ∨ r = 13 ∨ r = 9 ∨ r = 11
  · rcases h7 with rfl | rfl | rfl | rfl | rfl | rfl | rfl
    all_goals
      go_enter Tryd.func36, Tryd.ntmps36
      go_wp2
      go_ret
      exact ⟨rfl, Below.refl _ _⟩
  have e7 : (r == 7) = false := by simp; omega
  have e8 : (r == 8) = false := by simp; omega
  have e12 : (r == 12) = false := by simp; omega
  have e10 : (r == 10) = false := by simp; omega
  have e13 : (r == 13) = false := by simp; omega
  have e9 : (r == 9) = false := by simp; omega
  have e11 : (r == 11) = false := by simp; omega
  have hs : ∀ n, n ≤ 8 → ∀ m, (ByteArray.mk #[92, m]).size + (str (hexL n n)).size ≤ 9223372036854775807 := fun n hn m => by rw [size_str, hexL_length]; show 2 + n ≤ _; omega
  have ht : ∀ (n k : Nat) (m : UInt8), ByteArray.mk #[92, m] ++ str (hexL n k) = str (92 :: m :: hexL n k) := fun n k m => by show str [92, m] ++ str _ = _; rw [str_append]; rfl
  by_cases c1 : r < 0
  · obtain ⟨k, hk⟩ : ∃ k : Nat, (k : Int) = -1 - r := ⟨(-1 - r).toNat, by omega⟩
    have hE : escL r = 92 :: 120 :: hexL k 2 := by
      unfold escL
      rw [if_neg (by omega), if_neg (by omega), if_neg (by omega), if_neg (by omega), if_neg (by omega), if_neg (by omega), if_neg (by omega), if_pos c1]
      rw [show (-1 - r).toNat = k by omega]
    rw [hE]
    have hk' : (-1 - r : Int) = (k : Int) := hk.symm
    have C := Lib.hid (hex2_any k w (by omega))
    have hsz : (ByteArray.mk #[92, 120]).size + (str (hexL k 2)).size ≤ 9223372036854775807 := by rw [size_str, hexL_length]; show 2 + 2 ≤ _; omega
    have htx := ht k 2 120
    clear hE hk ht hs
    go_enter Tryd.func36, Tryd.ntmps36
    go_wp2_with (go_at_call 53; refine C.out.mono ?_; rintro e w1 ⟨rfl, hw⟩)
    go_ret
    exact ⟨by simp [htx], hw⟩
  obtain ⟨k, rfl⟩ := Int.eq_ofNat_of_zero_le (show 0 ≤ r by omega)
  by_cases c2 : (k : Int) < 32 ∨ (k : Int) = 127
  · have hE : escL k = 92 :: 120 :: hexL k 2 := by
      unfold escL
      rw [if_neg (by omega), if_neg (by omega), if_neg (by omega), if_neg (by omega), if_neg (by omega), if_neg (by omega), if_neg (by omega), if_neg (by omega), if_pos c2]; rfl
    rw [hE]
    have C := Lib.hid (hex2_any k w (by omega))
    have hsz : (ByteArray.mk #[92, 120]).size + (str (hexL k 2)).size ≤ 9223372036854775807 := by rw [size_str, hexL_length]; show 2 + 2 ≤ _; omega
    have htx := ht k 2 120
    clear hE ht hs
    by_cases c3 : (k : Int) < 32
    · clear c2
      go_enter Tryd.func36, Tryd.ntmps36
      go_wp2_with (go_at_call 53; refine C.out.mono ?_; rintro e w1 ⟨rfl, hw⟩)
      go_ret
      exact ⟨by simp [htx], hw⟩
    · have c4 : ((k : Int) == 127) = true := by simp; omega
      have c5 : decide ((k : Int) < 32) = false := by simp; omega
      clear c2
      go_enter Tryd.func36, Tryd.ntmps36
      go_wp2_with (go_at_call 53; refine C.out.mono ?_; rintro e w1 ⟨rfl, hw⟩)
      go_ret
      exact ⟨by simp [htx], hw⟩
  have c4 : ((k : Int) == 127) = false := by simp; omega
  have c5 : decide ((k : Int) < 32) = false := by simp; omega
  by_cases c3 : (k : Int) < 65536
  · have hE : escL k = 92 :: 117 :: hexL k 4 := by
      unfold escL
      rw [if_neg (by omega), if_neg (by omega), if_neg (by omega), if_neg (by omega), if_neg (by omega), if_neg (by omega), if_neg (by omega), if_neg (by omega), if_neg c2, if_pos c3]; rfl
    rw [hE]
    have C := Lib.hid (hex4_any k w (by omega))
    have hsz : (ByteArray.mk #[92, 117]).size + (str (hexL k 4)).size ≤ 9223372036854775807 := by rw [size_str, hexL_length]; show 2 + 4 ≤ _; omega
    have htx := ht k 4 117
    clear hE ht hs c2
    go_enter Tryd.func36, Tryd.ntmps36
    go_wp2_with (go_at_call 53; refine C.out.mono ?_; rintro e w1 ⟨rfl, hw⟩)
    go_ret
    exact ⟨by simp [htx], hw⟩
  · have hE : escL k = 92 :: 85 :: hexL k 8 := by
      unfold escL
      rw [if_neg (by omega), if_neg (by omega), if_neg (by omega), if_neg (by omega), if_neg (by omega), if_neg (by omega), if_neg (by omega), if_neg (by omega), if_neg c2, if_neg c3]; rfl
    rw [hE]
    have C := Lib.hid (hex8_any k w (by omega))
    have hsz : (ByteArray.mk #[92, 85]).size + (str (hexL k 8)).size ≤ 9223372036854775807 := by rw [size_str, hexL_length]; show 2 + 8 ≤ _; omega
    have htx := ht k 8 85
    clear hE ht hs c2
    go_enter Tryd.func36, Tryd.ntmps36
    go_wp2_with (go_at_call 53; refine C.out.mono ?_; rintro e w1 ⟨rfl, hw⟩)
    go_ret
    exact ⟨by simp [htx], hw⟩
end Go.Proofs.YtpboiodigfdajaaDoor
