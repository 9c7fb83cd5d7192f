/-
  Contracts: strconv.UnquoteChar at an escape sequence: a letter, a quote, a backslash; x, u, U and digits. Printed by wip/gen/uc.py.
-/
import Derived.Test.YthbnglkpkgpojaaDoorUnhex
import Derived.Test.YthbnglkpkgpojaaDoorUtf8
import Derived.Lib.QuoteBits
namespace Go.Proofs.YthbnglkpkgpojaaDoor
open Go.RowKit
set_option maxRecDepth 1000000
set_option linter.unusedVariables false
set_option linter.unusedSimpArgs false
theorem or_i32 (a x : Nat) (hx : x < 16) (ha : a * 16 + x < 2147483648) : bits .or .i32 ((a * 16 : Nat) : Int) ((x : Nat) : Int) = ((a * 16 + x : Nat) : Int) := by
  show IntKind.i32.wrap ((BitVec.ofInt 32 ((a * 16 : Nat) : Int) ||| BitVec.ofInt 32 ((x : Nat) : Int)).toNat : Int) = _
  rw [BitVec.toNat_or, ofInt_u32 (a * 16) (by omega), ofInt_u32 x (by omega)]
  have e : a * 16 ||| x = a * 16 + x := by
    have := Nat.two_pow_add_eq_or_of_lt (i := 4) (b := x) (by omega) a
    rw [Nat.mul_comm a 16]
    exact this.symm
  rw [e]
  exact Lib.wrap_i32_small _ (by omega)
theorem hexL_get (n : Nat) : ∀ (k j : Nat), j < k → (hexL n k)[j]? = some (hexB (n / 16 ^ (k - 1 - j) % 16))
  | 0, j, h => by omega
  | k + 1, 0, h => by rw [hexL]; rfl
  | k + 1, j + 1, h => by
    rw [hexL]
    have := hexL_get n k j (by omega)
    simp only [List.getElem?_cons_succ]
    rw [this, show k + 1 - 1 - (j + 1) = k - 1 - j by omega]
theorem hex_step (n k j : Nat) (h : j < k) : n / 16 ^ (k - j) * 16 + n / 16 ^ (k - 1 - j) % 16 = n / 16 ^ (k - (j + 1)) := by
  rw [show k - j = (k - 1 - j) + 1 by omega, show k - (j + 1) = k - 1 - j by omega, Nat.pow_succ, ← Nat.div_div_eq_div_mul]
  omega
set_option maxHeartbeats 8000000 in
theorem uc_letter (a : UInt8) (v : Int) (t : List UInt8) (q : Int) (hq : q = 34 ∨ q = 39) (h : (a = 97 ∧ v = 7) ∨ (a = 98 ∧ v = 8) ∨ (a = 102 ∧ v = 12) ∨ (a = 110 ∧ v = 10) ∨ (a = 114 ∧ v = 13) ∨ (a = 116 ∧ v = 9) ∨ (a = 118 ∧ v = 11) ∨ (a = 92 ∧ v = 92)) (w : World) :
    Calls Tryd.prog 74 #[.string (str (92 :: a :: t)), .int .u8 q] w fun e w' => e = .returned (ucV v false t) ∧ Below w.heap.size w w' := by
  have hidx := idx_str0 (P := Tryd.prog) 9 Tryd.underlying9 (l := 92 :: a :: t) (c := 92) rfl
  have hidx1 := idx_str1 (P := Tryd.prog) 9 Tryd.underlying9 (l := 92 :: a :: t) (c := a) rfl
  have hsl := slice_str2 (P := Tryd.prog) 9 Tryd.underlying9 (92 :: a :: t) (by simp)
  rw [show (92 :: a :: t).drop 2 = t from rfl] at hsl
  rw [show (((92 : UInt8).toNat : Nat) : Int) = 92 from rfl] at hidx
  obtain ⟨n, hn⟩ : ∃ n, n = (92 :: a :: t).length := ⟨_, rfl⟩
  have n1 : 2 ≤ n := by rw [hn]; simp
  have eL : (str (92 :: a :: t)).size = n := by rw [size_str, hn]
  have q0 : ((n : Int) == 0) = false := by simp; omega
  have q3 : ¬ (n : Int) ≤ 1 := by omega
  obtain ⟨l, hl⟩ : ∃ l, l = 92 :: a :: t := ⟨_, rfl⟩
  rw [← hl] at hidx hidx1 hsl eL ⊢
  clear hn hl
  rcases hq with rfl | rfl
  all_goals rcases h with ⟨rfl, rfl⟩ | ⟨rfl, rfl⟩ | ⟨rfl, rfl⟩ | ⟨rfl, rfl⟩ | ⟨rfl, rfl⟩ | ⟨rfl, rfl⟩ | ⟨rfl, rfl⟩ | ⟨rfl, rfl⟩
  all_goals (
    go_enter Tryd.func74, Tryd.ntmps74
    go_wp2_with fail
    all_goals first | (exfalso; omega) | skip
    (try simp only [Exit.inBlock, Exit.then])
    refine bodyPost_ret (results_tmp4 rfl _ _ _) rfl ?_
    exact ⟨rfl, Below.refl _ _⟩)
set_option maxHeartbeats 8000000 in
theorem uc_quote (a : UInt8) (t : List UInt8) (q : Int) (hq : (q = 34 ∧ a = 34) ∨ (q = 39 ∧ a = 39)) (w : World) :
    Calls Tryd.prog 74 #[.string (str (92 :: a :: t)), .int .u8 q] w fun e w' => e = .returned (ucV q false t) ∧ Below w.heap.size w w' := by
  have hidx := idx_str0 (P := Tryd.prog) 9 Tryd.underlying9 (l := 92 :: a :: t) (c := 92) rfl
  have hidx1 := idx_str1 (P := Tryd.prog) 9 Tryd.underlying9 (l := 92 :: a :: t) (c := a) rfl
  have hsl := slice_str2 (P := Tryd.prog) 9 Tryd.underlying9 (92 :: a :: t) (by simp)
  rw [show (92 :: a :: t).drop 2 = t from rfl] at hsl
  rw [show (((92 : UInt8).toNat : Nat) : Int) = 92 from rfl] at hidx
  obtain ⟨n, hn⟩ : ∃ n, n = (92 :: a :: t).length := ⟨_, rfl⟩
  have n1 : 2 ≤ n := by rw [hn]; simp
  have eL : (str (92 :: a :: t)).size = n := by rw [size_str, hn]
  have q0 : ((n : Int) == 0) = false := by simp; omega
  have q3 : ¬ (n : Int) ≤ 1 := by omega
  obtain ⟨l, hl⟩ : ∃ l, l = 92 :: a :: t := ⟨_, rfl⟩
  rw [← hl] at hidx hidx1 hsl eL ⊢
  clear hn hl
  rcases hq with ⟨rfl, rfl⟩ | ⟨rfl, rfl⟩
  all_goals (
    go_enter Tryd.func74, Tryd.ntmps74
    go_wp2_with fail
    all_goals first | (exfalso; omega) | skip
    (try simp only [Exit.inBlock, Exit.then])
    refine bodyPost_ret (results_tmp4 rfl _ _ _) rfl ?_
    exact ⟨rfl, Below.refl _ _⟩)
set_option maxHeartbeats 8000000 in
theorem uc_hexx (v : Nat) (hv : v < 256) (t : List UInt8) (ht : t.length ≤ 1000000000) (q : Int) (hq : q = 34 ∨ q = 39) (w : World) :
    Calls Tryd.prog 74 #[.string (str (92 :: 120 :: (hexL v 2 ++ t))), .int .u8 q] w fun e w' => e = .returned (ucV (v : Int) false t) ∧ Below w.heap.size w w' := by
  obtain ⟨s, hs⟩ : ∃ s, s = hexL v 2 ++ t := ⟨_, rfl⟩
  have hget : ∀ j, j < 2 → s[j]? = some (hexB (v / 16 ^ (2 - 1 - j) % 16)) := fun j hj => by
    rw [hs, List.getElem?_append_left (by rw [hexL_length]; exact hj)]
    exact hexL_get v 2 j hj
  have hdrop : s.drop 2 = t := by
    rw [hs]
    have := hexL_length v 2
    rw [List.drop_append_of_le_length (by omega), List.drop_of_length_le (by omega)]; rfl
  have hsk : s.length = 2 + t.length := by rw [hs, List.length_append, hexL_length]
  rw [← hs]
  have hidx := idx_str0 (P := Tryd.prog) 9 Tryd.underlying9 (l := 92 :: 120 :: s) (c := 92) rfl
  have hidx1 := idx_str1 (P := Tryd.prog) 9 Tryd.underlying9 (l := 92 :: 120 :: s) (c := 120) rfl
  have hsl := slice_str2 (P := Tryd.prog) 9 Tryd.underlying9 (92 :: 120 :: s) (by simp)
  rw [show (92 :: 120 :: s).drop 2 = s from rfl] at hsl
  rw [show (((92 : UInt8).toNat : Nat) : Int) = 92 from rfl] at hidx
  rw [show (((120 : UInt8).toNat : Nat) : Int) = 120 from rfl] at hidx1
  have hslk : ∀ wx, (Instr.slice 9 (.string (str s)) (some (.int .i64 2)) none none).run Tryd.prog wx = .ok (.string (str t)) wx := fun wx => by
    have := slice_str_from (P := Tryd.prog) 9 Tryd.underlying9 .i64 s 2 (by omega) wx
    rw [hdrop] at this; exact this
  obtain ⟨n, hn⟩ : ∃ n, n = (92 :: 120 :: s).length := ⟨_, rfl⟩
  have n1 : 2 ≤ n := by rw [hn]; simp
  have eL : (str (92 :: 120 :: s)).size = n := by rw [size_str, hn]
  obtain ⟨m, hm⟩ : ∃ m, m = s.length := ⟨_, rfl⟩
  have m1 : 2 ≤ m := by omega
  have eM : (str s).size = m := by rw [size_str, hm]
  have q0 : ((n : Int) == 0) = false := by simp; omega
  have q3 : ¬ (n : Int) ≤ 1 := by omega
  have q4 : ¬ (m : Int) < 2 := by omega
  obtain ⟨l, hl⟩ : ∃ l, l = 92 :: 120 :: s := ⟨_, rfl⟩
  rw [← hl] at hidx hidx1 hsl eL ⊢
  have HG := Lib.hid hget
  have q34 : (92 == q) = false := by simp; omega
  clear hn hl hs hget hdrop hsk hm hq
  go_enter Tryd.func74, Tryd.ntmps74
  go_wp2_with fail
  all_goals first | (exfalso; omega) | skip
  go_loop [7, 13, 14] (fun ve vv vj => ∃ j : Nat, vj = .int .i64 j ∧ j ≤ 2 ∧ vv = .int .i32 ((v / 16 ^ (2 - j) : Nat) : Int) ∧ ve = .nilIface) (fun _ _ vj => 2 - (intOf vj).toNat)
  case atStart => exact ⟨0, rfl, by omega, by rw [Nat.div_eq_of_lt (by simp; omega)]; rfl, rfl⟩
  case round =>
    obtain ⟨j, rfl, hj, rfl, rfl⟩ := hrel
    by_cases hlt : j < 2
    · have hidxj := fun wx => idx_str (P := Tryd.prog) 9 Tryd.underlying9 .i64 (HG.out j hlt) wx
      have hx16 : v / 16 ^ (2 - 1 - j) % 16 < 16 := Nat.mod_lt _ (by omega)
      have CX := Lib.hid (unhex_any (v / 16 ^ (2 - 1 - j) % 16) hx16)
      have hst := hex_step v 2 j hlt
      have hle : v / 16 ^ (2 - (j + 1)) ≤ v := Nat.div_le_self _ _
      obtain ⟨x, hx⟩ : ∃ x, x = v / 16 ^ (2 - 1 - j) % 16 := ⟨_, rfl⟩
      obtain ⟨y, hy⟩ : ∃ y, y = v / 16 ^ (2 - j) := ⟨_, rfl⟩
      rw [← hx] at hidxj CX hst hx16
      rw [← hy] at hst ⊢
      have hor := or_i32 y x hx16 (by omega)
      have hyb : y * 16 ≤ 1114111 := by omega
      rw [show ((y * 16 : Nat) : Int) = (y : Int) * 16 by omega] at hor
      obtain ⟨z, hz⟩ : ∃ z : Int, z = ((hexB x).toNat : Int) := ⟨_, rfl⟩
      rw [← hz] at hidxj CX
      have hwy : IntKind.i32.wrap ((y : Int) * 16) = (y : Int) * 16 := by simp [IntKind.wrap, IntKind.bits, IntKind.signed]; omega
      have HS := Lib.hid hst
      clear hx hy hz hst hle
      go_wp2_with (go_at_call 90; refine (CX.out _).mono ?_; rintro e w' ⟨rfl, rfl⟩)
      all_goals first | (exfalso; omega) | skip
      go_round
      case rel => exact ⟨j + 1, by go_num, by omega, by rw [← HS.out]; first | rfl | (simp only [hor]) | (go_num), rfl⟩
      case measure => simp [intOf]; omega
    · obtain rfl : j = 2 := by omega
      rw [show v / 16 ^ (2 - 2) = v by simp]
      go_wp2_with fail
      all_goals first | (exfalso; omega) | skip
      (try simp only [Exit.inBlock, Exit.then])
      refine bodyPost_ret (results_tmp4 rfl _ _ _) rfl ?_
      exact ⟨rfl, Below.refl _ _⟩
set_option maxHeartbeats 8000000 in
theorem uc_hexu (v : Nat) (hcp : isCP (v : Int) = true) (hv : v < 65536) (t : List UInt8) (ht : t.length ≤ 1000000000) (q : Int) (hq : q = 34 ∨ q = 39) (w : World) :
    Calls Tryd.prog 74 #[.string (str (92 :: 117 :: (hexL v 4 ++ t))), .int .u8 q] w fun e w' => e = .returned (ucV (v : Int) true t) ∧ Below w.heap.size w w' := by
  have hb := cp_bounds hcp
  have CV := Lib.hid (validRune_cp hcp w)
  obtain ⟨s, hs⟩ : ∃ s, s = hexL v 4 ++ t := ⟨_, rfl⟩
  have hget : ∀ j, j < 4 → s[j]? = some (hexB (v / 16 ^ (4 - 1 - j) % 16)) := fun j hj => by
    rw [hs, List.getElem?_append_left (by rw [hexL_length]; exact hj)]
    exact hexL_get v 4 j hj
  have hdrop : s.drop 4 = t := by
    rw [hs]
    have := hexL_length v 4
    rw [List.drop_append_of_le_length (by omega), List.drop_of_length_le (by omega)]; rfl
  have hsk : s.length = 4 + t.length := by rw [hs, List.length_append, hexL_length]
  rw [← hs]
  have hidx := idx_str0 (P := Tryd.prog) 9 Tryd.underlying9 (l := 92 :: 117 :: s) (c := 92) rfl
  have hidx1 := idx_str1 (P := Tryd.prog) 9 Tryd.underlying9 (l := 92 :: 117 :: s) (c := 117) rfl
  have hsl := slice_str2 (P := Tryd.prog) 9 Tryd.underlying9 (92 :: 117 :: s) (by simp)
  rw [show (92 :: 117 :: s).drop 2 = s from rfl] at hsl
  rw [show (((92 : UInt8).toNat : Nat) : Int) = 92 from rfl] at hidx
  rw [show (((117 : UInt8).toNat : Nat) : Int) = 117 from rfl] at hidx1
  have hslk : ∀ wx, (Instr.slice 9 (.string (str s)) (some (.int .i64 4)) none none).run Tryd.prog wx = .ok (.string (str t)) wx := fun wx => by
    have := slice_str_from (P := Tryd.prog) 9 Tryd.underlying9 .i64 s 4 (by omega) wx
    rw [hdrop] at this; exact this
  obtain ⟨n, hn⟩ : ∃ n, n = (92 :: 117 :: s).length := ⟨_, rfl⟩
  have n1 : 2 ≤ n := by rw [hn]; simp
  have eL : (str (92 :: 117 :: s)).size = n := by rw [size_str, hn]
  obtain ⟨m, hm⟩ : ∃ m, m = s.length := ⟨_, rfl⟩
  have m1 : 4 ≤ m := by omega
  have eM : (str s).size = m := by rw [size_str, hm]
  have q0 : ((n : Int) == 0) = false := by simp; omega
  have q3 : ¬ (n : Int) ≤ 1 := by omega
  have q4 : ¬ (m : Int) < 4 := by omega
  obtain ⟨l, hl⟩ : ∃ l, l = 92 :: 117 :: s := ⟨_, rfl⟩
  rw [← hl] at hidx hidx1 hsl eL ⊢
  have HG := Lib.hid hget
  have q34 : (92 == q) = false := by simp; omega
  clear hn hl hs hget hdrop hsk hm hq
  go_enter Tryd.func74, Tryd.ntmps74
  go_wp2_with fail
  all_goals first | (exfalso; omega) | skip
  go_loop [7, 13, 14] (fun ve vv vj => ∃ j : Nat, vj = .int .i64 j ∧ j ≤ 4 ∧ vv = .int .i32 ((v / 16 ^ (4 - j) : Nat) : Int) ∧ ve = .nilIface) (fun _ _ vj => 4 - (intOf vj).toNat)
  case atStart => exact ⟨0, rfl, by omega, by rw [Nat.div_eq_of_lt (by simp; omega)]; rfl, rfl⟩
  case round =>
    obtain ⟨j, rfl, hj, rfl, rfl⟩ := hrel
    by_cases hlt : j < 4
    · have hidxj := fun wx => idx_str (P := Tryd.prog) 9 Tryd.underlying9 .i64 (HG.out j hlt) wx
      have hx16 : v / 16 ^ (4 - 1 - j) % 16 < 16 := Nat.mod_lt _ (by omega)
      have CX := Lib.hid (unhex_any (v / 16 ^ (4 - 1 - j) % 16) hx16)
      have hst := hex_step v 4 j hlt
      have hle : v / 16 ^ (4 - (j + 1)) ≤ v := Nat.div_le_self _ _
      obtain ⟨x, hx⟩ : ∃ x, x = v / 16 ^ (4 - 1 - j) % 16 := ⟨_, rfl⟩
      obtain ⟨y, hy⟩ : ∃ y, y = v / 16 ^ (4 - j) := ⟨_, rfl⟩
      rw [← hx] at hidxj CX hst hx16
      rw [← hy] at hst ⊢
      have hor := or_i32 y x hx16 (by omega)
      have hyb : y * 16 ≤ 1114111 := by omega
      rw [show ((y * 16 : Nat) : Int) = (y : Int) * 16 by omega] at hor
      obtain ⟨z, hz⟩ : ∃ z : Int, z = ((hexB x).toNat : Int) := ⟨_, rfl⟩
      rw [← hz] at hidxj CX
      have hwy : IntKind.i32.wrap ((y : Int) * 16) = (y : Int) * 16 := by simp [IntKind.wrap, IntKind.bits, IntKind.signed]; omega
      have HS := Lib.hid hst
      clear hx hy hz hst hle
      go_wp2_with (go_at_call 90; refine (CX.out _).mono ?_; rintro e w' ⟨rfl, rfl⟩)
      all_goals first | (exfalso; omega) | skip
      go_round
      case rel => exact ⟨j + 1, by go_num, by omega, by rw [← HS.out]; first | rfl | (simp only [hor]) | (go_num), rfl⟩
      case measure => simp [intOf]; omega
    · obtain rfl : j = 4 := by omega
      rw [show v / 16 ^ (4 - 4) = v by simp]
      go_wp2_with (go_at_call 86; refine CV.out.mono ?_; rintro e w1 ⟨rfl, rfl⟩)
      all_goals first | (exfalso; omega) | skip
      (try simp only [Exit.inBlock, Exit.then])
      refine bodyPost_ret (results_tmp4 rfl _ _ _) rfl ?_
      exact ⟨rfl, Below.refl _ _⟩
set_option maxHeartbeats 8000000 in
theorem uc_hexU (v : Nat) (hcp : isCP (v : Int) = true) (t : List UInt8) (ht : t.length ≤ 1000000000) (q : Int) (hq : q = 34 ∨ q = 39) (w : World) :
    Calls Tryd.prog 74 #[.string (str (92 :: 85 :: (hexL v 8 ++ t))), .int .u8 q] w fun e w' => e = .returned (ucV (v : Int) true t) ∧ Below w.heap.size w w' := by
  have hb := cp_bounds hcp
  have CV := Lib.hid (validRune_cp hcp w)
  obtain ⟨s, hs⟩ : ∃ s, s = hexL v 8 ++ t := ⟨_, rfl⟩
  have hget : ∀ j, j < 8 → s[j]? = some (hexB (v / 16 ^ (8 - 1 - j) % 16)) := fun j hj => by
    rw [hs, List.getElem?_append_left (by rw [hexL_length]; exact hj)]
    exact hexL_get v 8 j hj
  have hdrop : s.drop 8 = t := by
    rw [hs]
    have := hexL_length v 8
    rw [List.drop_append_of_le_length (by omega), List.drop_of_length_le (by omega)]; rfl
  have hsk : s.length = 8 + t.length := by rw [hs, List.length_append, hexL_length]
  rw [← hs]
  have hidx := idx_str0 (P := Tryd.prog) 9 Tryd.underlying9 (l := 92 :: 85 :: s) (c := 92) rfl
  have hidx1 := idx_str1 (P := Tryd.prog) 9 Tryd.underlying9 (l := 92 :: 85 :: s) (c := 85) rfl
  have hsl := slice_str2 (P := Tryd.prog) 9 Tryd.underlying9 (92 :: 85 :: s) (by simp)
  rw [show (92 :: 85 :: s).drop 2 = s from rfl] at hsl
  rw [show (((92 : UInt8).toNat : Nat) : Int) = 92 from rfl] at hidx
  rw [show (((85 : UInt8).toNat : Nat) : Int) = 85 from rfl] at hidx1
  have hslk : ∀ wx, (Instr.slice 9 (.string (str s)) (some (.int .i64 8)) none none).run Tryd.prog wx = .ok (.string (str t)) wx := fun wx => by
    have := slice_str_from (P := Tryd.prog) 9 Tryd.underlying9 .i64 s 8 (by omega) wx
    rw [hdrop] at this; exact this
  obtain ⟨n, hn⟩ : ∃ n, n = (92 :: 85 :: s).length := ⟨_, rfl⟩
  have n1 : 2 ≤ n := by rw [hn]; simp
  have eL : (str (92 :: 85 :: s)).size = n := by rw [size_str, hn]
  obtain ⟨m, hm⟩ : ∃ m, m = s.length := ⟨_, rfl⟩
  have m1 : 8 ≤ m := by omega
  have eM : (str s).size = m := by rw [size_str, hm]
  have q0 : ((n : Int) == 0) = false := by simp; omega
  have q3 : ¬ (n : Int) ≤ 1 := by omega
  have q4 : ¬ (m : Int) < 8 := by omega
  obtain ⟨l, hl⟩ : ∃ l, l = 92 :: 85 :: s := ⟨_, rfl⟩
  rw [← hl] at hidx hidx1 hsl eL ⊢
  have HG := Lib.hid hget
  have q34 : (92 == q) = false := by simp; omega
  clear hn hl hs hget hdrop hsk hm hq
  go_enter Tryd.func74, Tryd.ntmps74
  go_wp2_with fail
  all_goals first | (exfalso; omega) | skip
  go_loop [7, 13, 14] (fun ve vv vj => ∃ j : Nat, vj = .int .i64 j ∧ j ≤ 8 ∧ vv = .int .i32 ((v / 16 ^ (8 - j) : Nat) : Int) ∧ ve = .nilIface) (fun _ _ vj => 8 - (intOf vj).toNat)
  case atStart => exact ⟨0, rfl, by omega, by rw [Nat.div_eq_of_lt (by simp; omega)]; rfl, rfl⟩
  case round =>
    obtain ⟨j, rfl, hj, rfl, rfl⟩ := hrel
    by_cases hlt : j < 8
    · have hidxj := fun wx => idx_str (P := Tryd.prog) 9 Tryd.underlying9 .i64 (HG.out j hlt) wx
      have hx16 : v / 16 ^ (8 - 1 - j) % 16 < 16 := Nat.mod_lt _ (by omega)
      have CX := Lib.hid (unhex_any (v / 16 ^ (8 - 1 - j) % 16) hx16)
      have hst := hex_step v 8 j hlt
      have hle : v / 16 ^ (8 - (j + 1)) ≤ v := Nat.div_le_self _ _
      obtain ⟨x, hx⟩ : ∃ x, x = v / 16 ^ (8 - 1 - j) % 16 := ⟨_, rfl⟩
      obtain ⟨y, hy⟩ : ∃ y, y = v / 16 ^ (8 - j) := ⟨_, rfl⟩
      rw [← hx] at hidxj CX hst hx16
      rw [← hy] at hst ⊢
      have hor := or_i32 y x hx16 (by omega)
      have hyb : y * 16 ≤ 1114111 := by omega
      rw [show ((y * 16 : Nat) : Int) = (y : Int) * 16 by omega] at hor
      obtain ⟨z, hz⟩ : ∃ z : Int, z = ((hexB x).toNat : Int) := ⟨_, rfl⟩
      rw [← hz] at hidxj CX
      have hwy : IntKind.i32.wrap ((y : Int) * 16) = (y : Int) * 16 := by simp [IntKind.wrap, IntKind.bits, IntKind.signed]; omega
      have HS := Lib.hid hst
      clear hx hy hz hst hle
      go_wp2_with (go_at_call 90; refine (CX.out _).mono ?_; rintro e w' ⟨rfl, rfl⟩)
      all_goals first | (exfalso; omega) | skip
      go_round
      case rel => exact ⟨j + 1, by go_num, by omega, by rw [← HS.out]; first | rfl | (simp only [hor]) | (go_num), rfl⟩
      case measure => simp [intOf]; omega
    · obtain rfl : j = 8 := by omega
      rw [show v / 16 ^ (8 - 8) = v by simp]
      go_wp2_with (go_at_call 86; refine CV.out.mono ?_; rintro e w1 ⟨rfl, rfl⟩)
      all_goals first | (exfalso; omega) | skip
      (try simp only [Exit.inBlock, Exit.then])
      refine bodyPost_ret (results_tmp4 rfl _ _ _) rfl ?_
      exact ⟨rfl, Below.refl _ _⟩
end Go.Proofs.YthbnglkpkgpojaaDoor
