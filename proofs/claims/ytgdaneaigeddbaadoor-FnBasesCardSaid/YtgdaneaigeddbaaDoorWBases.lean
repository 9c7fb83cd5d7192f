/-
  The walk of laws.FnBases: it returns true.
-/
import Derived.Test.YtgdaneaigeddbaaDoorNumRange
import Derived.Test.YtgdaneaigeddbaaDoorDigit
import Derived.Test.YtgdaneaigeddbaaDoorZeros
import Derived.Test.YtgdaneaigeddbaaDoorStrWords
import Derived.Deep.RegionHeld3
import Derived.Lib.OthersKept
import Derived.WalkLawsBesides
import Derived.Outline
namespace Go.Proofs.YtgdaneaigeddbaaDoor.fnBases
open Go.RowKit
set_option linter.unusedVariables false
set_option linter.unusedSimpArgs false
def strLen (v : Value) : Nat := match v with | .string x => x.size | _ => 0
theorem bases_mod {p q s n m k : Nat} (hp : p < s) (hq : q < p) (hn : m = q + n) (h : k * s = p + n) : (m : Int) % (s : Int) = (((s - (p - q) : Nat)) : Int) := by
  have hk : k ≠ 0 := by rintro rfl; omega
  obtain ⟨k, rfl⟩ : ∃ j, k = j + 1 := ⟨k - 1, by omega⟩
  rw [Nat.succ_mul] at h
  have e : m = (s - (p - q)) + k * s := by omega
  have : m % s = s - (p - q) := by rw [e, Nat.add_mul_mod_self_right, Nat.mod_eq_of_lt (by omega)]
  omega
theorem bases_end {p q s n m k : Nat} (hs : 2 ≤ s) (hq : q = p) (hn : m = q + n) (h : k * s = p + n) : (m : Int) % (s : Int) = 0 ∧ (m : Int) / (s : Int) = (k : Int) := by
  have e : m = k * s := by omega
  subst e
  rw [Int.natCast_mul]
  exact ⟨Int.mul_emod_left _ _, Int.mul_ediv_cancel _ (by omega)⟩
set_option maxHeartbeats 4000000 in
set_option maxRecDepth 100000 in
theorem walk (w : World) (u : Int) (hu : (Lit.int .u64 u).wf = true) (hL : laidMetH Tryd.prog Rows.fnBasesRow.laid w) :
    Calls Tryd.prog 3 #[.int .u64 u] w fun e w' => e = .returned (.bool true) ∧ Below w.heap.size w w' := by
  have hT : NumT w := ⟨pow10T_of hL (by kernel_rfl) (by simp [Rows.fnBasesRow]), bruT_of hL (by kernel_rfl) (by simp [Rows.fnBasesRow])⟩
  have hu := wf_u64 hu
  clear hL
  obtain ⟨u, rfl⟩ : ∃ n : Nat, u = n := ⟨u.toNat, by omega⟩
  have C := Lib.hid (FormatUint_any u 2 w (by omega) (by omega) (by omega) hT)
  have F := Lib.hid (fun wx b hb h2 h36 => FormatUint_any u b wx h2 h36 (by omega) (hT.below hb))
  have hne := digB_ne (b := 2) (u := u)
  have hlen := digB_length_64 (b := 2) (u := u) (by omega) (by omega)
  obtain ⟨D2, hD2⟩ : ∃ L, L = digB 2 u := ⟨_, rfl⟩
  rw [← hD2] at C hne hlen
  have HD2 := Lib.hid hD2
  have e1 : (str D2).toList = D2 := by rw [Lib.toList_data]; rfl
  have n1 : (D2 == []) = false := by simpa using hne
  clear hT hD2
  go_enter Tryd.func3, Tryd.ntmps3
  go_wp2_with (go_at_call 10; refine C.out.mono ?_; rintro e w1 ⟨rfl, hw⟩; clear C)
  go_loopw [18] (fun vk wr => ∃ k : Nat, vk = .int .i64 k ∧ k ≤ 4 ∧ Hid (Below (w1.heap.size + 1) (w1.alloc (.cells #[.int .i64 2, .int .i64 3, .int .i64 4, .int .i64 5] 3)) wr)) (fun vk _ => 4 - (intOf vk).toNat)
  case atStart => exact ⟨0, rfl, by omega, Below.refl _ _⟩
  case round =>
    obtain ⟨k, rfl, hk, hb⟩ := hrel
    obtain ⟨wo, rfl⟩ : ∃ wo : World, wo = wr := ⟨_, rfl⟩
    by_cases hk4 : k < 4
    · obtain ⟨s, hs⟩ : ∃ s, s = k + 2 := ⟨_, rfl⟩
      have hs2 : 2 ≤ s := by omega
      have hs5 : s ≤ 5 := by omega
      have hcell : wo.cell? ⟨w1.heap.size, k, none⟩ = some (.int .i64 (s : Int)) := by
        rw [hb.out.cell (p := ⟨w1.heap.size, k, none⟩) (by simp), World.cell?_alloc_new, hs]
        have : k = 0 ∨ k = 1 ∨ k = 2 ∨ k = 3 := by omega
        rcases this with rfl | rfl | rfl | rfl <;> rfl
      have HS := Lib.hid hs
      clear hs
      obtain ⟨b, hbs⟩ : ∃ b, b = 2 ^ s := ⟨_, rfl⟩
      have hb4 : 4 ≤ b := by rw [hbs]; exact Nat.pow_le_pow_right (n := 2) (by omega) hs2
      have hb32 : b ≤ 32 := by rw [hbs]; exact Nat.pow_le_pow_right (n := 2) (by omega) hs5
      have hsh : wrap64 (2 ^ s) = (b : Int) := by
        have : ((2 : Int) ^ s) = (b : Int) := by rw [hbs]; simp
        rw [this]; exact IntWalk.wrap64_in _ ⟨by omega, by omega⟩
      obtain ⟨p, hp, hG⟩ := groups (s := s) (by omega) hs5 u
      rw [← hbs, ← HD2.out] at hG
      have hN := congrArg List.length hG
      rw [flatMap_group _ s (fun c => padB_length s _), List.length_append, List.length_replicate] at hN
      have FF := Lib.hid (F.out wo b (hw.trans (((Below.refl _ _).alloc (Nat.le_refl _) _).trans (hb.out.mono (by simp)) |>.mono hw.size)) (by omega) (by omega))
      have hdig := Lib.hid (digB_digits (b := b) (by omega) u)
      have hTne := digB_ne (b := b) (u := u)
      have hTlen := digB_length_64 (b := b) (u := u) (by omega) (by omega)
      obtain ⟨T, hTT⟩ : ∃ T, T = digB b u := ⟨_, rfl⟩
      rw [← hTT] at FF hdig hTne hTlen hG hN
      have HG := Lib.hid hG
      have HN := Lib.hid hN
      have HB := Lib.hid hbs
      clear hG hN hTT hbs
      have eT : (str T).size = T.length := size_str T
      go_wp2_with (go_at_call 10; refine FF.out.mono ?_; rintro e w2 ⟨rfl, hw2⟩; clear FF)
      go_loop [8] (fun v8 => ∃ (q : Nat) (L : List UInt8), v8 = .string (str L) ∧ q ≤ p ∧ Hid (L = List.replicate q 48 ++ D2)) (fun v8 => 200 - strLen v8)
      case atStart => exact ⟨0, D2, rfl, by omega, rfl⟩
      case round =>
        obtain ⟨q, L, rfl, hq, hLq⟩ := hrel
        have hLn : L.length = q + D2.length := by rw [hLq.out, List.length_append, List.length_replicate]
        have eL : (str L).size = L.length := size_str L
        by_cases hqp : q < p
        · have hm : (L.length : Int) % (s : Int) = (((s - (p - q) : Nat)) : Int) := bases_mod hp hqp hLn HN.out
          have hL200 : L.length < 100 := by omega
          have hsum : ¬ 9223372036854775807 < (str [48]).size + (str L).size := by rw [size_str, size_str]; simp; omega
          have hcat : str [48] ++ str L = str (48 :: L) := by rw [str_append]; rfl
          have HL := Lib.hid hLn
          clear hLn
          go_wp2_with fail
          go_round
          case rel => exact ⟨q + 1, 48 :: L, rfl, by omega, by show _ = _; rw [hLq.out]; rfl⟩
          case measure =>
            show 200 - (str [48] ++ str L).size < 200 - (str L).size
            rw [hcat, size_str, size_str, List.length_cons]; omega
        · obtain rfl : q = p := by omega
          obtain ⟨hm, hdv⟩ := bases_end hs2 rfl hLn HN.out
          have HL := Lib.hid hLn
          clear hLn hq hqp
          go_wp2_with fail
          go_loopw [9] (fun _ wr => ∃ i : Nat, i ≤ T.length ∧ Hid (wr.heap[w2.heap.size]? = some (.stringIter (str T) i)) ∧ Hid (Below w2.heap.size w2 wr)) (fun _ wr => T.length - wr.iterPos w2.heap.size)
          case atStart => exact ⟨0, by omega, by show (w2.heap.push _)[w2.heap.size]? = _; simp, by exact (Below.refl _ _).alloc (Nat.le_refl _) _⟩
          case round =>
            obtain ⟨i, hi, hit, hbw⟩ := hrel
            by_cases hlt : i < T.length
            · obtain ⟨c, hc⟩ : ∃ c, T[i]? = some c := ⟨T[i], List.getElem?_eq_getElem hlt⟩
              obtain ⟨hi2, hc2⟩ := str_at hc
              obtain ⟨d, hd, hcd⟩ := hdig.out c (List.mem_of_getElem? hc)
              have hd36 : d < 36 := by omega
              have hc128 : c.toNat < 128 := by rw [hcd, dgc_toNat hd36]; split <;> omega
              have hdn : digN c = d := by rw [hcd, digN_dgc hd36]
              have hnext : ∀ ty, (Instr.next (.pointer (some ⟨w2.heap.size, 0, none⟩)) true ty).run Tryd.prog wr = .ok (.tuple #[.bool true, .int .i64 i, .int .i32 (c.toNat : Int)]) (wr.iterAt w2.heap.size (str T) (i + 1)) := fun ty => by
                rw [Lib.run_next_ascii_at (P := Tryd.prog) wr w2.heap.size (str T) i ty hit.out hi2 (by rw [hc2]; exact hc128), hc2]
              have hit2 := Lib.hid (Lib.iterAt_heap wr w2.heap.size (str T) i (i + 1) hit.out)
              have hbw2 := Lib.hid (Lib.below_iterAt hbw.out (k := w2.heap.size) (Nat.le_refl _) (str T) (i + 1))
              obtain ⟨W3, hW3⟩ : ∃ W3, W3 = wr.iterAt w2.heap.size (str T) (i + 1) := ⟨_, rfl⟩
              rw [← hW3] at hnext hit2 hbw2
              have hidx := fun wx => idx_str (P := Tryd.prog) 9 Tryd.underlying9 .i64 hc wx
              have DC := digit_any c W3
              rw [hdn] at DC
              have SF := Lib.hid (fun wx => specFormatUint_any d 2 wx (by omega) (by omega) (by omega))
              have hFl : (digB 2 d).length ≤ s := digB_two_le (by omega) (by rw [← HB.out]; exact hd)
              have ZF := Lib.hid (fun wx => zeros_any (s - (digB 2 d).length) wx (by omega))
              have hpad := padB_eq s d (by omega) (by rw [← HB.out]; exact hd)
              have hgrp := flatMap_at (fun c => padB s (digN c)) s (fun c => padB_length s _) T i hlt
              rw [show T[i] = c by rw [List.getElem?_eq_getElem hlt] at hc; exact Option.some.inj hc, HG.out, ← hLq.out, hdn, ← hpad] at hgrp
              have hmul : (i + 1) * s ≤ L.length := by
                have h1 : (i + 1) * s ≤ T.length * s := Nat.mul_le_mul_right s hlt
                have := HN.out; have := HL.out; omega
              obtain ⟨a, ha⟩ : ∃ a, a = i * s := ⟨_, rfl⟩
              have ha2 : (i + 1) * s = a + s := by rw [Nat.succ_mul, ha]
              obtain ⟨a2, ea2⟩ : ∃ a2, a2 = a + s := ⟨_, rfl⟩
              rw [ha2, ← ea2] at hmul
              have hL300 : L.length ≤ 300 := by
                have := HL.out; omega
              have m1 : IntKind.i64.wrap ((i : Int) * (s : Int)) = (a : Int) := by rw [show (i : Int) * (s : Int) = (a : Int) by rw [ha, Int.natCast_mul], IntKind.wrap_i64]; omega
              have m2 : IntKind.i64.wrap (((i : Int) + 1) * (s : Int)) = (a2 : Int) := by rw [show ((i : Int) + 1) * (s : Int) = ((a2 : Nat) : Int) by rw [ea2, ← ha2, Int.natCast_mul]; rfl, IntKind.wrap_i64]; omega
              have m3 : IntKind.i64.wrap ((i : Int) + 1) = (i : Int) + 1 := by rw [IntKind.wrap_i64]; omega
              have hsl := fun wx => slice_str (P := Tryd.prog) 9 Tryd.underlying9 .i64 .i64 L a a2 (by omega) hmul wx
              rw [show a2 - a = s by omega, ha, hgrp, ← ha] at hsl
              have hext : (str L).extract a a2 = str (List.replicate (s - (digB 2 d).length) 48 ++ digB 2 d) := by rw [extract_str, show a2 - a = s by omega, ha, hgrp]
              have q1 : (0 : Int) ≤ (a2 : Int) ∧ (a2 : Int) ≤ (L.length : Int) := ⟨by omega, by omega⟩
              have q2 : a ≤ a2 := by omega
              obtain ⟨F2, hF2⟩ : ∃ F2, F2 = digB 2 d := ⟨_, rfl⟩
              rw [← hF2] at SF hFl ZF hsl hext
              obtain ⟨z, hz⟩ : ∃ z, z = s - F2.length := ⟨_, rfl⟩
              have m4 : IntKind.i64.wrap ((s : Int) - (F2.length : Int)) = (z : Int) := by rw [IntKind.wrap_i64]; omega
              rw [← hz] at ZF hsl hext
              have hz5 : z ≤ 5 := by omega
              have hzl : (List.replicate z (48 : UInt8)).length = z := List.length_replicate
              obtain ⟨Z2, hZ2⟩ : ∃ Z2, Z2 = List.replicate z (48 : UInt8) := ⟨_, rfl⟩
              rw [← hZ2] at ZF hsl hzl hext
              have eF : (str F2).size = F2.length := size_str F2
              have hsum : ¬ 9223372036854775807 < (str Z2).size + (str F2).size := by rw [size_str, size_str]; omega
              have hsum2 : ¬ 9223372036854775807 < (str Z2).size + F2.length := by rw [size_str]; omega
              have hcat : str Z2 ++ str F2 = str (Z2 ++ F2) := str_append _ _
              obtain ⟨G2, hG2⟩ : ∃ G2, G2 = Z2 ++ F2 := ⟨_, rfl⟩
              rw [← hG2] at hcat hsl hext
              have m5 : IntKind.u64.wrap (d : Int) = (d : Int) := by rw [IntKind.wrap_u64]; omega
              have g1 : decide (b ≤ d) = false := by simp; omega
              have HW3 := Lib.hid hW3
              have DC := Lib.hid DC
              clear ea2 hW3 hG2 hZ2 hz hF2 ha ha2 hgrp hpad hdn hcd hc hc2 hi2 hc128 hd36 hzl
              go_wp2_with (go_at_call 11; refine DC.out.mono ?_; rintro e wz ⟨rfl, rfl⟩)
              refine wp_region_held_drew (S := fun _ => True) (by kernel_rfl) trivial (fun hHeld => ?_)
              refine wpAnyH_take (i := 0) (oi := ⟨some 54, _, _, _, _, _⟩) (v := ?_) rfl (by kernel_rfl) (by kernel_rfl) (by kernel_rfl) (fun _ _ _ h => h) (Or.inl ⟨by kernel_rfl, ?_⟩) (by assumption) ?_
              case refine_2 => (intro w hSw; (try dsimp only at hSw); go_simp; (try with_reducible rfl))
              try simp only [Act.put, List.setIfInBounds_toArray, List.set_cons_zero, List.set_cons_succ]
              refine wpAnyH_take (i := 1) (oi := ⟨some 55, _, _, _, _, _⟩) (v := ?_) rfl (by kernel_rfl) (by kernel_rfl) (by kernel_rfl) (fun _ _ _ h => h) (Or.inl ⟨by kernel_rfl, ?_⟩) (by assumption) ?_
              case refine_2 => (intro w hSw; (try dsimp only at hSw); go_simp; (try with_reducible rfl))
              try simp only [Act.put, List.setIfInBounds_toArray, List.set_cons_zero, List.set_cons_succ]
              refine wpAnyH_take (i := 2) (oi := ⟨some 56, _, _, _, _, _⟩) (v := ?_) rfl (by kernel_rfl) (by kernel_rfl) (by kernel_rfl) (fun _ _ _ h => h) (Or.inl ⟨by kernel_rfl, ?_⟩) (by assumption) ?_
              case refine_2 => (intro w hSw; (try dsimp only at hSw); go_simp; (try with_reducible rfl))
              try simp only [Act.put, List.setIfInBounds_toArray, List.set_cons_zero, List.set_cons_succ]
              refine wpAnyH_take (i := 3) (oi := ⟨some 57, _, _, _, _, _⟩) (v := ?_) rfl (by kernel_rfl) (by kernel_rfl) (by kernel_rfl) (fun _ _ _ h => h) (Or.inl ⟨by kernel_rfl, ?_⟩) (by assumption) ?_
              case refine_2 => (intro w hSw; (try dsimp only at hSw); go_simp; (try with_reducible rfl))
              try simp only [Act.put, List.setIfInBounds_toArray, List.set_cons_zero, List.set_cons_succ]
              refine wpAnyH_take (i := 4) (oi := ⟨some 58, _, _, _, _, _⟩) (v := ?_) rfl (by kernel_rfl) (by kernel_rfl) (by kernel_rfl) (fun _ _ _ h => h) (Or.inl ⟨by kernel_rfl, ?_⟩) (by assumption) ?_
              case refine_2 => (intro w hSw; (try dsimp only at hSw); go_simp; (try with_reducible rfl))
              try simp only [Act.put, List.setIfInBounds_toArray, List.set_cons_zero, List.set_cons_succ]
              refine wpAnyH_take (i := 5) (oi := ⟨some 59, _, _, _, _, _⟩) (v := ?_) rfl (by kernel_rfl) (by kernel_rfl) (by kernel_rfl) (fun _ _ _ h => h) (Or.inl ⟨by kernel_rfl, ?_⟩) (by assumption) ?_
              case refine_2 => (intro w hSw; (try dsimp only at hSw); go_simp; (try with_reducible rfl))
              try simp only [Act.put, List.setIfInBounds_toArray, List.set_cons_zero, List.set_cons_succ]
              refine wpAnyH_take (i := 6) (oi := ⟨some 60, _, _, _, _, _⟩) (v := ?_) rfl (by kernel_rfl) (by kernel_rfl) (by kernel_rfl) (fun _ _ _ h => h) (Or.inl ⟨by kernel_rfl, ?_⟩) (by assumption) ?_
              case refine_2 => (intro w hSw; (try dsimp only at hSw); go_simp; (try with_reducible rfl))
              try simp only [Act.put, List.setIfInBounds_toArray, List.set_cons_zero, List.set_cons_succ]
              refine wpAnyH_take (i := 11) (oi := ⟨some 65, _, _, _, _, _⟩) (v := ?_) rfl (by kernel_rfl) (by kernel_rfl) (by kernel_rfl) (fun _ _ _ h => h) (Or.inl ⟨by kernel_rfl, ?_⟩) (by assumption) ?_
              case refine_2 => (intro w hSw; (try dsimp only at hSw); go_simp; (try with_reducible rfl))
              try simp only [Act.put, List.setIfInBounds_toArray, List.set_cons_zero, List.set_cons_succ]
              refine wpAnyH_take (i := 12) (oi := ⟨some 66, _, _, _, _, _⟩) (v := ?_) rfl (by kernel_rfl) (by kernel_rfl) (by kernel_rfl) (fun _ _ _ h => h) (Or.inl ⟨by kernel_rfl, ?_⟩) (by assumption) ?_
              case refine_2 => (intro w hSw; (try dsimp only at hSw); go_simp; (try with_reducible rfl))
              try simp only [Act.put, List.setIfInBounds_toArray, List.set_cons_zero, List.set_cons_succ]
              refine wpAnyH_take (i := 15) (oi := ⟨some 69, _, _, _, _, _⟩) (v := ?_) rfl (by kernel_rfl) (by kernel_rfl) (by kernel_rfl) (fun _ _ _ h => h) (Or.inl ⟨by kernel_rfl, ?_⟩) (by assumption) ?_
              case refine_2 => (intro w hSw; (try dsimp only at hSw); go_simp; (try with_reducible rfl))
              try simp only [Act.put, List.setIfInBounds_toArray, List.set_cons_zero, List.set_cons_succ]
              refine wpAnyH_take (i := 16) (oi := ⟨some 70, _, _, _, _, _⟩) (v := ?_) rfl (by kernel_rfl) (by kernel_rfl) (by kernel_rfl) (fun _ _ _ h => h) (Or.inl ⟨by kernel_rfl, ?_⟩) (by assumption) ?_
              case refine_2 => (intro w hSw; (try dsimp only at hSw); go_simp; (try with_reducible rfl))
              try simp only [Act.put, List.setIfInBounds_toArray, List.set_cons_zero, List.set_cons_succ]
              refine wpAnyH_take (i := 17) (oi := ⟨some 71, _, _, _, _, _⟩) (v := ?_) rfl (by kernel_rfl) (by kernel_rfl) (by kernel_rfl) (fun _ _ _ h => h) (Or.inl ⟨by kernel_rfl, ?_⟩) (by assumption) ?_
              case refine_2 => (intro w hSw; (try dsimp only at hSw); go_simp; (try with_reducible rfl))
              try simp only [Act.put, List.setIfInBounds_toArray, List.set_cons_zero, List.set_cons_succ]
              refine wpAnyH_take (i := 18) (oi := ⟨some 72, _, _, _, _, _⟩) (v := ?_) rfl (by kernel_rfl) (by kernel_rfl) (by kernel_rfl) (fun _ _ _ h => h) (Or.inl ⟨by kernel_rfl, ?_⟩) (by assumption) ?_
              case refine_2 => (intro w hSw; (try dsimp only at hSw); go_simp; (try with_reducible rfl))
              try simp only [Act.put, List.setIfInBounds_toArray, List.set_cons_zero, List.set_cons_succ]
              refine wpAnyH_take (i := 19) (oi := ⟨some 73, _, _, _, _, _⟩) (v := ?_) rfl (by kernel_rfl) (by kernel_rfl) (by kernel_rfl) (fun _ _ _ h => h) (Or.inl ⟨by kernel_rfl, ?_⟩) (by assumption) ?_
              case refine_2 => (intro w hSw; (try dsimp only at hSw); go_simp; (try with_reducible rfl))
              try simp only [Act.put, List.setIfInBounds_toArray, List.set_cons_zero, List.set_cons_succ]
              refine wpAnyH_take (i := 20) (oi := ⟨some 74, _, _, _, _, _⟩) (v := ?_) rfl (by kernel_rfl) (by kernel_rfl) (by kernel_rfl) (fun _ _ _ h => h) (Or.inl ⟨by kernel_rfl, ?_⟩) (by assumption) ?_
              case refine_2 => (intro w hSw; (try dsimp only at hSw); go_simp; (try with_reducible rfl))
              try simp only [Act.put, List.setIfInBounds_toArray, List.set_cons_zero, List.set_cons_succ]
              refine wpAnyH_take (i := 21) (oi := ⟨some 75, _, _, _, _, _⟩) (v := ?_) rfl (by kernel_rfl) (by kernel_rfl) (by kernel_rfl) (fun _ _ _ h => h) (Or.inl ⟨by kernel_rfl, ?_⟩) (by assumption) ?_
              case refine_2 => (intro w hSw; (try dsimp only at hSw); go_simp; (try with_reducible rfl))
              try simp only [Act.put, List.setIfInBounds_toArray, List.set_cons_zero, List.set_cons_succ]
              refine wpAnyH_take (i := 22) (oi := ⟨some 76, _, _, _, _, _⟩) (v := ?_) rfl (by kernel_rfl) (by kernel_rfl) (by kernel_rfl) (fun _ _ _ h => h) (Or.inl ⟨by kernel_rfl, ?_⟩) (by assumption) ?_
              case refine_2 => (intro w hSw; (try dsimp only at hSw); go_simp; (try with_reducible rfl))
              try simp only [Act.put, List.setIfInBounds_toArray, List.set_cons_zero, List.set_cons_succ]
              refine wpAnyH_take (i := 23) (oi := ⟨some 77, _, _, _, _, _⟩) (v := ?_) rfl (by kernel_rfl) (by kernel_rfl) (by kernel_rfl) (fun _ _ _ h => h) (Or.inl ⟨by kernel_rfl, ?_⟩) (by assumption) ?_
              case refine_2 => (intro w hSw; (try dsimp only at hSw); go_simp; (try with_reducible rfl))
              try simp only [Act.put, List.setIfInBounds_toArray, List.set_cons_zero, List.set_cons_succ]
              refine wpAnyH_ready (rs := [7]) (by kernel_rfl) (by simp) ?_
              refine AllReadyH.cons rfl (fun K hK => ?_) AllReadyH.nil
              go_simp
              (go_at_call 13; refine (SF.out _).mono ?_; rintro e w4 ⟨rfl, hw4⟩)
              go_wp2_with fail
              refine hK.out _ _ ?_ (fun hHeld => ?_)
              case refine_1 => (exact trivial)
              clear hK K
              try simp only [Act.put, List.setIfInBounds_toArray, List.set_cons_zero, List.set_cons_succ]
              refine wpAnyH_take (i := 8) (oi := ⟨some 62, _, _, _, _, _⟩) (v := ?_) rfl (by kernel_rfl) (by kernel_rfl) (by kernel_rfl) (fun _ _ _ h => h) (Or.inl ⟨by kernel_rfl, ?_⟩) (by assumption) ?_
              case refine_2 => (intro w hSw; (try dsimp only at hSw); go_simp; (try with_reducible rfl))
              try simp only [Act.put, List.setIfInBounds_toArray, List.set_cons_zero, List.set_cons_succ]
              refine wpAnyH_take (i := 9) (oi := ⟨some 63, _, _, _, _, _⟩) (v := ?_) rfl (by kernel_rfl) (by kernel_rfl) (by kernel_rfl) (fun _ _ _ h => h) (Or.inl ⟨by kernel_rfl, ?_⟩) (by assumption) ?_
              case refine_2 => (intro w hSw; (try dsimp only at hSw); go_simp; (try with_reducible rfl))
              try simp only [Act.put, List.setIfInBounds_toArray, List.set_cons_zero, List.set_cons_succ]
              refine wpAnyH_ready (rs := [10]) (by kernel_rfl) (by simp) ?_
              refine AllReadyH.cons rfl (fun K hK => ?_) AllReadyH.nil
              go_simp
              (go_at_call 12; refine (ZF.out _).mono ?_; rintro e w5 ⟨rfl, hw5⟩)
              go_wp2_with fail
              refine hK.out _ _ ?_ (fun hHeld => ?_)
              case refine_1 => (exact trivial)
              clear hK K
              try simp only [Act.put, List.setIfInBounds_toArray, List.set_cons_zero, List.set_cons_succ]
              refine wpAnyH_ready (rs := [13]) (by kernel_rfl) (by simp) ?_
              refine AllReadyH.cons rfl (fun K hK => ?_) AllReadyH.nil
              go_simp
              (go_at_call 13; refine (SF.out _).mono ?_; rintro e w6 ⟨rfl, hw6⟩)
              go_wp2_with fail
              refine hK.out _ _ ?_ (fun hHeld => ?_)
              case refine_1 => (exact trivial)
              clear hK K
              try simp only [Act.put, List.setIfInBounds_toArray, List.set_cons_zero, List.set_cons_succ]
              refine wpAnyH_take (i := 14) (oi := ⟨some 68, _, _, _, _, _⟩) (v := ?_) rfl (by kernel_rfl) (by kernel_rfl) (by kernel_rfl) (fun _ _ _ h => h) (Or.inl ⟨by kernel_rfl, ?_⟩) (by assumption) ?_
              case refine_2 => (intro w hSw; (try dsimp only at hSw); go_simp; (try with_reducible rfl))
              try simp only [Act.put, List.setIfInBounds_toArray, List.set_cons_zero, List.set_cons_succ]
              refine wpAnyH_take (i := 24) (oi := ⟨some 78, _, _, _, _, _⟩) (v := ?_) rfl (by kernel_rfl) (by kernel_rfl) (by kernel_rfl) (fun _ _ _ h => h) (Or.inl ⟨by kernel_rfl, ?_⟩) (by assumption) ?_
              case refine_2 => (intro w hSw; (try dsimp only at hSw); go_simp; (try with_reducible rfl))
              try simp only [Act.put, List.setIfInBounds_toArray, List.set_cons_zero, List.set_cons_succ]
              refine wpAnyH_take (i := 25) (oi := ⟨some 79, _, _, _, _, _⟩) (v := ?_) rfl (by kernel_rfl) (by kernel_rfl) (by kernel_rfl) (fun _ _ _ h => h) (Or.inl ⟨by kernel_rfl, ?_⟩) (by assumption) ?_
              case refine_2 => (intro w hSw; (try dsimp only at hSw); go_simp; (try with_reducible rfl))
              try simp only [Act.put, List.setIfInBounds_toArray, List.set_cons_zero, List.set_cons_succ]
              refine wpAnyH_done (by kernel_rfl) ?_ _
              go_wp2_with fail
              have hb6 : Below W3.heap.size W3 w6 := (((Below.refl _ _).drew).trans hw4).trans ((hw5.mono hw4.size).trans (hw6.mono (Nat.le_trans hw4.size hw5.size)))
              have hg : w2.heap.size < W3.heap.size := (Array.getElem?_eq_some_iff.1 hit2.out).1
              go_roundw
              case rel => exact ⟨i + 1, by omega, by show _ = _; rw [hb6.block _ hg]; exact hit2.out, hbw2.out.trans (hb6.mono (by omega))⟩
              case measure =>
                rw [iterPos_of (show w6.heap[w2.heap.size]? = some (.stringIter (str T) (i + 1)) by rw [hb6.block _ hg]; exact hit2.out), iterPos_of hit.out]; omega
            · have hnext : ∀ ty, (Instr.next (.pointer (some ⟨w2.heap.size, 0, none⟩)) true ty).run Tryd.prog wr = .ok (.tuple #[.bool false]) wr := fun ty => Lib.run_next_end_at (P := Tryd.prog) wr w2.heap.size (str T) i ty hit.out (by rw [size_str]; exact hlt)
              have hszo : w1.heap.size + 1 ≤ wo.heap.size := by have := hb.out.size; simpa using this
              have hfin := Lib.hid (hb.out.trans ((hw2.mono hszo).trans (hbw.out.mono (Nat.le_trans hszo hw2.size))))
              clear hszo
              go_wp2_with fail
              go_roundw
              case rel => exact ⟨k + 1, by go_num, by omega, hfin.out⟩
              case measure => simp [intOf]; omega
    · go_wp2_with fail
      go_ret
      exact ⟨rfl, hw.trans (((Below.refl _ _).alloc (Nat.le_refl _) _).trans (hb.out.mono (by simp)) |>.mono hw.size)⟩
end Go.Proofs.YtgdaneaigeddbaaDoor.fnBases
