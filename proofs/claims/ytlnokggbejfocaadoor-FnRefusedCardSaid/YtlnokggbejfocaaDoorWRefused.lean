/-
  The walk of laws.FnRefused: it returns true.
-/
import Derived.Test.YtlnokggbejfocaaDoorParse
import Derived.Test.YtlnokggbejfocaaDoorTells
import Derived.Test.YtlnokggbejfocaaDoorDigit
import Derived.Test.YtlnokggbejfocaaDoorPlainFive
import Derived.Test.YtlnokggbejfocaaDoorSpecFormat
import Derived.Deep.RegionHeld3
import Derived.Outline
namespace Go.Proofs.YtlnokggbejfocaaDoor.fnRefused
open Go.RowKit
set_option maxRecDepth 100000
set_option linter.unusedVariables false
set_option linter.unusedSimpArgs false
theorem wf_i64' {x : Int} (h : (Lit.int .i64 x).wf = true) : -9223372036854775808 ≤ x ∧ x ≤ 9223372036854775807 := by simpa [Lit.wf, IntKind.min, IntKind.max, IntKind.signed, IntKind.bits] using h
theorem wf_u64' {x : Int} (h : (Lit.int .u64 x).wf = true) : 0 ≤ x ∧ x ≤ 18446744073709551615 := by simpa [Lit.wf, IntKind.min, IntKind.max, IntKind.signed, IntKind.bits] using h
theorem wf_u8' {x : Int} (h : (Lit.int .u8 x).wf = true) : 0 ≤ x ∧ x ≤ 255 := by simpa [Lit.wf, IntKind.min, IntKind.max, IntKind.signed, IntKind.bits] using h
theorem slice_str_to {P : Program} (t : TypeId) (ht : P.underlying t = some .string) (k : IntKind) (l : List UInt8) (a : Nat) (h1 : a ≤ l.length) (w : World) : (Instr.slice t (.string (str l)) none (some (.int k (a : Int))) none).run P w = .ok (.string (str (l.take a))) w := by
  rw [run_slice_string_h w t (str l) ht k _ (by omega) (by rw [size_str]; omega), extract_str]
  rw [show ((a : Int)).toNat = a by omega, List.drop_zero, Nat.sub_zero]
theorem conv_one (c : UInt8) (w : World) : (convert 38 9 (.slice (some ⟨w.heap.size, 0, none⟩) 1 1)).run Tryd.prog (w.alloc (.cells #[.int .u8 (c.toNat : Int)] 5)) = .ok (.string (str [c])) (w.alloc (.cells #[.int .u8 (c.toNat : Int)] 5)) := by
  have hr : Reads (w.alloc (.cells #[.int .u8 (c.toNat : Int)] 5)) (w.heap.size + 1) 1 (some ⟨w.heap.size, 0, none⟩) [c].length (bcells [c]) := by
    refine ⟨by simp [bcells], fun _ => ⟨_, rfl, by simp, fun j u hu => ?_⟩⟩
    match j, hu with
    | 0, hu => simp [bcells] at hu; subst hu; simp [Addr.add]
    | (j + 1), hu => simp [bcells] at hu
  exact run_convert_reads (P := Tryd.prog) _ 38 5 9 Tryd.underlying38 Tryd.underlying5 Tryd.underlying9 1 hr
theorem conv_one_drew (c : UInt8) (w : World) : (convert 38 9 (.slice (some ⟨w.heap.size, 0, none⟩) 1 1)).run Tryd.prog (w.alloc (.cells #[.int .u8 (c.toNat : Int)] 5)).drew = .ok (.string (str [c])) (w.alloc (.cells #[.int .u8 (c.toNat : Int)] 5)).drew := conv_one c w.drew
def base2N (base : Int) : Nat := if base < 2 ∨ 36 < base then 10 else base.toNat
theorem base2N_le (base : Int) : 2 ≤ base2N base ∧ base2N base ≤ 36 := by unfold base2N; split <;> omega
theorem base2_any (base : Int) (w : World) : Calls Tryd.prog 15 #[.int .i64 base] w fun e w' => e = .returned (.int .i64 (base2N base : Int)) ∧ w = w' := by
  by_cases h1 : base < 2
  · have HE := Lib.hid (show base2N base = 10 by rw [base2N, if_pos (.inl h1)])
    go_enter Tryd.func15, Tryd.ntmps15
    go_wp2_with fail
    all_goals first | (exfalso; omega) | skip
    go_ret
    exact ⟨by rw [HE.out]; rfl, rfl⟩
  · by_cases h2 : 36 < base
    · have HE := Lib.hid (show base2N base = 10 by rw [base2N, if_pos (.inr h2)])
      have h1' : 2 ≤ base := by omega
      clear h1
      go_enter Tryd.func15, Tryd.ntmps15
      go_wp2_with fail
      all_goals first | (exfalso; omega) | skip
      go_ret
      exact ⟨by rw [HE.out]; rfl, rfl⟩
    · have HE := Lib.hid (show ((base2N base : Nat) : Int) = base by rw [base2N, if_neg (by omega)]; omega)
      have h1' : 2 ≤ base := by omega
      have h2' : base ≤ 36 := by omega
      clear h1 h2
      go_enter Tryd.func15, Tryd.ntmps15
      go_wp2_with fail
      all_goals first | (exfalso; omega) | skip
      go_ret
      exact ⟨by rw [HE.out]; rfl, rfl⟩
set_option maxHeartbeats 8000000 in
theorem walk (w : World) (u : Int) (hu : (Lit.int .u64 u).wf = true) (ix : Int) (hix : (Lit.int .i64 ix).wf = true) (b : Int) (hb : (Lit.int .u8 b).wf = true) (base : Int) (hbase : (Lit.int .i64 base).wf = true) (hL : laidMetH Tryd.prog Rows.fnRefusedRow.laid w) :
    Calls Tryd.prog 5 #[.int .u64 u, .int .i64 ix, .int .u8 b, .int .i64 base] w fun e w' => e = .returned (.bool true) ∧ Below w.heap.size w w' := by
  obtain ⟨aS, aR, hE⟩ := errT_of hL (by kernel_rfl) (by simp [Rows.fnRefusedRow, Rows.laid_strconv_ErrSyntax, synText]) (by simp [Rows.fnRefusedRow, Rows.laid_strconv_ErrRange, rngText])
  have hu := wf_u64' hu
  have hix := wf_i64' hix
  have hb := wf_u8' hb
  have hbase := wf_i64' hbase
  clear hL
  obtain ⟨c, hc⟩ : ∃ c : UInt8, b = (c.toNat : Int) := ⟨UInt8.ofNat b.toNat, by rw [UInt8.toNat_ofNat']; omega⟩
  have DC := digit_any c w
  rw [← hc] at DC
  have hdl := digN_le c
  obtain ⟨d, hd⟩ : ∃ d : Int, d = (digN c : Int) := ⟨_, rfl⟩
  obtain ⟨cb, hcb⟩ : ∃ x, x = capB c := ⟨_, rfl⟩
  rw [← hd, ← hcb] at DC
  have DC := Lib.hid DC
  have BC := fun wx => base2_any base wx
  obtain ⟨hb2, hb36⟩ := base2N_le base
  have S := fun wx => specFormatUint_any (u.toNat / 256) (base2N base) wx hb2 hb36 (by omega)
  have hdl64 := digB_length_64 (b := base2N base) (u := u.toNat / 256) hb2 (by omega)
  obtain ⟨y, hy⟩ : ∃ y : Int, y = ((u.toNat / 256 : Nat) : Int) := ⟨_, rfl⟩
  have hyu : u / 256 = y := by rw [hy]; omega
  obtain ⟨b2, hb2e⟩ : ∃ x : Int, x = (base2N base : Int) := ⟨_, rfl⟩
  rw [← hb2e] at BC
  rw [← hy, ← hb2e] at S
  obtain ⟨D, hD⟩ : ∃ D, D = digB (base2N base) (u.toNat / 256) := ⟨_, rfl⟩
  rw [← hD] at S hdl64
  obtain ⟨k, hk⟩ : ∃ k, k = D.length := ⟨_, rfl⟩
  have eD : (str D).size = k := by rw [size_str, hk]
  have k64 : k ≤ 64 := by omega
  have BC := Lib.hid BC
  have S := Lib.hid S
  have u0 := hu.1
  have u1 := hu.2
  have d0 : 0 ≤ d := by omega
  have d99 : d ≤ 99 := by omega
  by_cases c1 : base < 2
  · skip
    clear hE hd hcb hb2e hy hD hk hdl64 hb2 hb36 hdl hc
    go_enter Tryd.func5, Tryd.ntmps5
    go_wp2_with (first | (go_at_call 14; refine DC.out.mono ?_; rintro e w0 ⟨rfl, rfl⟩) | (go_at_call 15; refine (BC.out _).mono ?_; rintro e w1 ⟨rfl, rfl⟩) | (go_at_call 13; refine (S.out _).mono ?_; rintro e w2 ⟨rfl, hw2⟩))
    all_goals first | (exfalso; omega) | skip
    go_ret
    exact ⟨rfl, hw2⟩
  have c1' : 2 ≤ base := by omega
  by_cases c2 : 36 < base
  · skip
    clear hE hd hcb hb2e hy hD hk hdl64 hb2 hb36 hdl hc c1
    go_enter Tryd.func5, Tryd.ntmps5
    go_wp2_with (first | (go_at_call 14; refine DC.out.mono ?_; rintro e w0 ⟨rfl, rfl⟩) | (go_at_call 15; refine (BC.out _).mono ?_; rintro e w1 ⟨rfl, rfl⟩) | (go_at_call 13; refine (S.out _).mono ?_; rintro e w2 ⟨rfl, hw2⟩))
    all_goals first | (exfalso; omega) | skip
    go_ret
    exact ⟨rfl, hw2⟩
  have c2' : base ≤ 36 := by omega
  by_cases c3 : d < base
  · skip
    clear hE hd hcb hb2e hy hD hk hdl64 hb2 hb36 hdl hc c1 c2
    go_enter Tryd.func5, Tryd.ntmps5
    go_wp2_with (first | (go_at_call 14; refine DC.out.mono ?_; rintro e w0 ⟨rfl, rfl⟩) | (go_at_call 15; refine (BC.out _).mono ?_; rintro e w1 ⟨rfl, rfl⟩) | (go_at_call 13; refine (S.out _).mono ?_; rintro e w2 ⟨rfl, hw2⟩))
    all_goals first | (exfalso; omega) | skip
    go_ret
    exact ⟨rfl, hw2⟩
  have c3' : base ≤ d := by omega
  by_cases c4 : ix < 0
  · skip
    clear hE hd hcb hb2e hy hD hk hdl64 hb2 hb36 hdl hc c1 c2 c3
    go_enter Tryd.func5, Tryd.ntmps5
    go_wp2_with (first | (go_at_call 14; refine DC.out.mono ?_; rintro e w0 ⟨rfl, rfl⟩) | (go_at_call 15; refine (BC.out _).mono ?_; rintro e w1 ⟨rfl, rfl⟩) | (go_at_call 13; refine (S.out _).mono ?_; rintro e w2 ⟨rfl, hw2⟩))
    all_goals first | (exfalso; omega) | skip
    go_ret
    exact ⟨rfl, hw2⟩
  have c4' : 0 ≤ ix := by omega
  by_cases c5 : (k : Int) < ix
  · skip
    clear hE hd hcb hb2e hy hD hk hdl64 hb2 hb36 hdl hc c1 c2 c3 c4
    go_enter Tryd.func5, Tryd.ntmps5
    go_wp2_with (first | (go_at_call 14; refine DC.out.mono ?_; rintro e w0 ⟨rfl, rfl⟩) | (go_at_call 15; refine (BC.out _).mono ?_; rintro e w1 ⟨rfl, rfl⟩) | (go_at_call 13; refine (S.out _).mono ?_; rintro e w2 ⟨rfl, hw2⟩))
    all_goals first | (exfalso; omega) | skip
    go_ret
    exact ⟨rfl, hw2⟩
  have c5' : ix ≤ (k : Int) := by omega
  by_cases c6 : ix = 0 ∧ (b = 43 ∨ b = 45)
  · obtain ⟨rfl, hbb⟩ := c6
    rcases hbb with rfl | rfl
    · skip
      clear hE hd hcb hb2e hy hD hk hdl64 hb2 hb36 hdl hc c1 c2 c3 c4 c5
      go_enter Tryd.func5, Tryd.ntmps5
      go_wp2_with (first | (go_at_call 14; refine DC.out.mono ?_; rintro e w0 ⟨rfl, rfl⟩) | (go_at_call 15; refine (BC.out _).mono ?_; rintro e w1 ⟨rfl, rfl⟩) | (go_at_call 13; refine (S.out _).mono ?_; rintro e w2 ⟨rfl, hw2⟩))
      all_goals first | (exfalso; omega) | skip
      go_ret
      exact ⟨rfl, hw2⟩
    · skip
      clear hE hd hcb hb2e hy hD hk hdl64 hb2 hb36 hdl hc c1 c2 c3 c4 c5
      go_enter Tryd.func5, Tryd.ntmps5
      go_wp2_with (first | (go_at_call 14; refine DC.out.mono ?_; rintro e w0 ⟨rfl, rfl⟩) | (go_at_call 15; refine (BC.out _).mono ?_; rintro e w1 ⟨rfl, rfl⟩) | (go_at_call 13; refine (S.out _).mono ?_; rintro e w2 ⟨rfl, hw2⟩))
      all_goals first | (exfalso; omega) | skip
      go_ret
      exact ⟨rfl, hw2⟩
  obtain ⟨j, rfl⟩ : ∃ j : Nat, ix = j := ⟨ix.toNat, by omega⟩
  have hbN : base2N base = base.toNat := by rw [base2N, if_neg (by omega)]
  rw [hbN] at hD hb2e hb2 hb36
  have hjk : j ≤ D.length := by omega
  have hpl : ∀ x ∈ D.take j, digN x < base.toNat := fun x hx => by rw [hD] at hx; exact digB_lt_b hb2 hb36 _ x (List.mem_of_mem_take hx)
  have hval : foldV base.toNat (D.take j) 0 ≤ 18446744073709551615 := by rw [hD]; have := take_le hb2 hb36 (u.toNat / 256) j; omega
  have hpu := pUe_bad (b := base.toNat) hb2 hb36 (D.take j) (D.drop j) c hpl (by omega) hval
  have hns : noSign (D.take j ++ c :: D.drop j) = D.take j ++ c :: D.drop j := by
    rw [hD]
    refine put_head hb2 hb36 fun h0 => ?_
    constructor
    · rintro rfl; exact c6 ⟨by omega, .inl hc⟩
    · rintro rfl; exact c6 ⟨by omega, .inr hc⟩
  have hpi : pIe (D.take j ++ c :: D.drop j) base.toNat 64 = (0, 2) := pIe_of_bad (by rw [hns]; exact hpu)
  have hTl : (D.take j ++ c :: D.drop j).length ≤ 70 := by simp; omega
  have P := fun wx (hbx : Below w.heap.size w wx) => ParseInt_any (D.take j ++ c :: D.drop j) base 64 wx (.inr (by omega)) (by omega) (by omega) (by omega) aS aR (hE.below hbx)
  have PUC := fun wx (hbx : Below w.heap.size w wx) => ParseUint_any (D.take j ++ c :: D.drop j) base 64 wx (.inr (by omega)) (by omega) (by omega) (by omega) aS aR (hE.below hbx)
  rw [show (64 : Int).toNat = 64 from rfl] at P PUC
  rw [hpi] at P
  rw [hpu] at PUC
  have hs1 := fun wx => slice_str_to (P := Tryd.prog) 9 Tryd.underlying9 .i64 D j hjk wx
  have hs2 := fun wx => slice_str_from (P := Tryd.prog) 9 Tryd.underlying9 .i64 D j hjk wx
  obtain ⟨X, hX⟩ : ∃ X, X = D.take j := ⟨_, rfl⟩
  obtain ⟨Y, hY⟩ : ∃ Y, Y = D.drop j := ⟨_, rfl⟩
  rw [← hX] at hs1 P PUC hTl
  rw [← hY] at hs2 P PUC hTl
  have xl : X.length ≤ 70 := by simp at hTl; omega
  have yl : Y.length ≤ 70 := by simp at hTl; omega
  have cat1 : str X ++ str [c] = str (X ++ [c]) := str_append X [c]
  have cat2 : str (X ++ [c]) ++ str Y = str (X ++ c :: Y) := by rw [str_append, List.append_assoc]; rfl
  have z1 : ¬ 9223372036854775807 < (str X).size + (str [c]).size := by rw [size_str, size_str]; simp; omega
  have z2 : ¬ 9223372036854775807 < (str (X ++ [c])).size + (str Y).size := by rw [size_str, size_str]; simp; omega
  obtain ⟨X1, hX1⟩ : ∃ X1, X1 = X ++ [c] := ⟨_, rfl⟩
  obtain ⟨T, hT⟩ : ∃ T, T = X ++ c :: Y := ⟨_, rfl⟩
  rw [← hX1] at cat1 cat2 z2
  rw [← hT] at cat2 P PUC
  have P2 := Lib.hid (show ∀ wx, Below w.heap.size w wx → Calls Tryd.prog 11 #[.string (str T), .int .i64 base, .int .i64 64] wx fun e w' => e = .returned (.tuple #[.int .i64 0, .agg #[.int .i64 1, .string (str piText), .string (str T)]]) ∧ Below wx.heap.size wx w' from P)
  have PU2 := Lib.hid (show ∀ wx, Below w.heap.size w wx → Calls Tryd.prog 12 #[.string (str T), .int .i64 base, .int .i64 64] wx fun e w' => e = .returned (.tuple #[.int .u64 0, .agg #[.int .i64 1, .string (str puText), .string (str T)]]) ∧ Below wx.heap.size wx w' from PUC)
  have TT1 := Lib.hid (show ∀ wx, Calls Tryd.prog 16 #[.agg #[.int .i64 1, .string (str piText), .string (str T)], .int .i64 1, .string (str piText), .string (str T)] wx fun e w' => e = .returned (.bool true) ∧ Below wx.heap.size wx w' from fun wx => tells_same 1 rfl piText T wx)
  have TT2 := Lib.hid (show ∀ wx, Calls Tryd.prog 16 #[.agg #[.int .i64 1, .string (str puText), .string (str T)], .int .i64 1, .string (str puText), .string (str T)] wx fun e w' => e = .returned (.bool true) ∧ Below wx.heap.size wx w' from fun wx => tells_same 1 rfl puText T wx)
  have hcv := fun wx => conv_one c wx
  rw [← hc] at hcv
  have hcv2 := fun wx => conv_one_drew c wx
  rw [← hc] at hcv2
  obtain ⟨jI, hjI⟩ : ∃ jI : Int, jI = (j : Int) := ⟨_, rfl⟩
  rw [← hjI] at hs1 hs2 c4' c5' c6 ⊢
  have HCB := Lib.hid hc
  clear hE hd hcb hb2e hy hD hk hdl64 hb2 hb36 hdl hc P PUC hpi hpu hns hpl hval hTl hX hY hX1 hT xl yl c1 c2 c3 c4 c5 hbN hjk hjI
  by_cases hj0 : jI = 0
  · have r1 : (b == 43) = false := by simp; intro h; exact c6 ⟨hj0, .inl h⟩
    have r2 : (b == 45) = false := by simp; intro h; exact c6 ⟨hj0, .inr h⟩
    subst hj0
    clear c6
    go_enter Tryd.func5, Tryd.ntmps5
    go_wp2_with (first | (go_at_call 14; refine DC.out.mono ?_; rintro e w0 ⟨rfl, rfl⟩) | (go_at_call 15; refine (BC.out _).mono ?_; rintro e w1 ⟨rfl, rfl⟩) | (go_at_call 13; refine (S.out _).mono ?_; rintro e w2 ⟨rfl, hw2⟩))
    all_goals first | (exfalso; omega) | skip
    refine wp_region_held_drew (S := fun _ => True) (by kernel_rfl) trivial (fun hHeld => ?_)
    refine wpAnyH_take (i := 0) (oi := ⟨some 60, _, _, _, _, _⟩) (v := ?_) rfl (by kernel_rfl) (by kernel_rfl) (by kernel_rfl) (fun _ _ _ h => h) (Or.inl ⟨by kernel_rfl, ?_⟩) (by assumption) ?_
    case refine_2 => (intro w hSw; (try dsimp only at hSw); go_simp; (try with_reducible rfl))
    try simp only [Act.put, List.setIfInBounds_toArray, List.set_cons_zero, List.set_cons_succ]
    refine wpAnyH_take (i := 1) (oi := ⟨some 61, _, _, _, _, _⟩) (v := ?_) rfl (by kernel_rfl) (by kernel_rfl) (by kernel_rfl) (fun _ _ _ h => h) (Or.inl ⟨by kernel_rfl, ?_⟩) (by assumption) ?_
    case refine_2 => (intro w hSw; (try dsimp only at hSw); go_simp; (try with_reducible rfl))
    try simp only [Act.put, List.setIfInBounds_toArray, List.set_cons_zero, List.set_cons_succ]
    refine wpAnyH_take (i := 2) (oi := ⟨some 62, _, _, _, _, _⟩) (v := ?_) rfl (by kernel_rfl) (by kernel_rfl) (by kernel_rfl) (fun _ _ _ h => h) (Or.inl ⟨by kernel_rfl, ?_⟩) (by assumption) ?_
    case refine_2 => (intro w hSw; (try dsimp only at hSw); go_simp; (try with_reducible rfl))
    try simp only [Act.put, List.setIfInBounds_toArray, List.set_cons_zero, List.set_cons_succ]
    refine wpAnyH_take (i := 3) (oi := ⟨some 63, _, _, _, _, _⟩) (v := ?_) rfl (by kernel_rfl) (by kernel_rfl) (by kernel_rfl) (fun _ _ _ h => h) (Or.inl ⟨by kernel_rfl, ?_⟩) (by assumption) ?_
    case refine_2 => (intro w hSw; (try dsimp only at hSw); go_simp; (try with_reducible rfl))
    try simp only [Act.put, List.setIfInBounds_toArray, List.set_cons_zero, List.set_cons_succ]
    refine wpAnyH_take (i := 7) (oi := ⟨some 67, _, _, _, _, _⟩) (v := ?_) rfl (by kernel_rfl) (by kernel_rfl) (by kernel_rfl) (fun _ _ _ h => h) (Or.inl ⟨by kernel_rfl, ?_⟩) (by assumption) ?_
    case refine_2 => (intro w hSw; (try dsimp only at hSw); go_simp; (try with_reducible rfl))
    try simp only [Act.put, List.setIfInBounds_toArray, List.set_cons_zero, List.set_cons_succ]
    refine wpAnyH_take (i := 8) (oi := ⟨some 68, _, _, _, _, _⟩) (v := ?_) rfl (by kernel_rfl) (by kernel_rfl) (by kernel_rfl) (fun _ _ _ h => h) (Or.inl ⟨by kernel_rfl, ?_⟩) (by assumption) ?_
    case refine_2 => (intro w hSw; (try dsimp only at hSw); go_simp; (try with_reducible rfl))
    try simp only [Act.put, List.setIfInBounds_toArray, List.set_cons_zero, List.set_cons_succ]
    refine wpAnyH_take (i := 9) (oi := ⟨some 69, _, _, _, _, _⟩) (v := ?_) rfl (by kernel_rfl) (by kernel_rfl) (by kernel_rfl) (fun _ _ _ h => h) (Or.inl ⟨by kernel_rfl, ?_⟩) (by assumption) ?_
    case refine_2 => (intro w hSw; (try dsimp only at hSw); go_simp; (try with_reducible rfl))
    try simp only [Act.put, List.setIfInBounds_toArray, List.set_cons_zero, List.set_cons_succ]
    refine wpAnyH_ready (rs := [4]) (by kernel_rfl) (by simp) ?_
    refine AllReadyH.cons rfl (fun K hK => ?_) AllReadyH.nil
    go_simp
    refine hK.out _ _ ?_ (fun hHeld => ?_)
    case refine_1 => (exact trivial)
    clear hK K
    try simp only [Act.put, List.setIfInBounds_toArray, List.set_cons_zero, List.set_cons_succ]
    refine wpAnyH_ready (rs := [5]) (by kernel_rfl) (by simp) ?_
    refine AllReadyH.cons rfl (fun K hK => ?_) AllReadyH.nil
    go_simp
    refine hK.out _ _ ?_ (fun hHeld => ?_)
    case refine_1 => (exact trivial)
    clear hK K
    try simp only [Act.put, List.setIfInBounds_toArray, List.set_cons_zero, List.set_cons_succ]
    refine wpAnyH_take (i := 6) (oi := ⟨some 66, _, _, _, _, _⟩) (v := ?_) rfl (by kernel_rfl) (by kernel_rfl) (by kernel_rfl) (fun _ _ _ h => h) (Or.inl ⟨by kernel_rfl, ?_⟩) (by assumption) ?_
    case refine_2 => (intro w hSw; (try dsimp only at hSw); go_simp; (try with_reducible rfl))
    try simp only [Act.put, List.setIfInBounds_toArray, List.set_cons_zero, List.set_cons_succ]
    refine wpAnyH_take (i := 10) (oi := ⟨some 70, _, _, _, _, _⟩) (v := ?_) rfl (by kernel_rfl) (by kernel_rfl) (by kernel_rfl) (fun _ _ _ h => h) (Or.inl ⟨by kernel_rfl, ?_⟩) (by assumption) ?_
    case refine_2 => (intro w hSw; (try dsimp only at hSw); go_simp; (try with_reducible rfl))
    try simp only [Act.put, List.setIfInBounds_toArray, List.set_cons_zero, List.set_cons_succ]
    refine wpAnyH_take (i := 11) (oi := ⟨some 12, _, _, _, _, _⟩) (v := ?_) rfl (by kernel_rfl) (by kernel_rfl) (by kernel_rfl) (fun _ _ _ h => h) (Or.inl ⟨by kernel_rfl, ?_⟩) (by assumption) ?_
    case refine_2 => (intro w hSw; (try dsimp only at hSw); go_simp; (try with_reducible rfl))
    try simp only [Act.put, List.setIfInBounds_toArray, List.set_cons_zero, List.set_cons_succ]
    refine wpAnyH_done (by kernel_rfl) ?_ _
    have hb3 : Below w.heap.size w (w2.drew.alloc (.cells #[.int .u8 b] 5)) := hw2.trans (((Below.refl _ _).drew.alloc (Nat.le_refl _) _).mono hw2.size)
    have tok1 : True := trivial
    go_wp2_with (first
      | (go_at_call 11; refine (P2.out _ hb3).mono ?_; rintro e w4 ⟨rfl, hw4⟩; have hb4 := hb3.trans (hw4.mono hb3.size))
      | (go_at_call 12; refine (PU2.out _ (hb4.trans ((Below.refl _ _).alloc hb4.size _))).mono ?_; rintro e w5 ⟨rfl, hw5⟩; have hb5 := (hb4.trans ((Below.refl _ _).alloc hb4.size _)).trans (hw5.mono (Nat.le_trans hb4.size (by simp))); obtain ⟨hc5, hf5⟩ := bcell2 hw5; have hs5 : w4.heap.size < w5.heap.size := Nat.lt_of_lt_of_le (by simp) hw5.size)
      | (go_at_call 16; have _t := tok1; clear tok1; refine (TT1.out _).mono ?_; rintro e w6 ⟨rfl, hw6⟩; have hb6 := (hb5.trans ((Below.refl _ _).alloc hb5.size _)).trans (hw6.mono (Nat.le_trans hb5.size (by simp))); obtain ⟨hc6, hf6⟩ := bcell2 hw6)
      | (go_at_call 16; refine (TT2.out _).mono ?_; rintro e w7 ⟨rfl, hw7⟩; have hb7 := hb6.trans (hw7.mono hb6.size)))
    all_goals first | (exfalso; omega) | skip
    go_ret
    exact ⟨by simp, hb7⟩
  · have r1 : (jI == 0) = false := by simpa using hj0
    clear c6 hj0
    go_enter Tryd.func5, Tryd.ntmps5
    go_wp2_with (first | (go_at_call 14; refine DC.out.mono ?_; rintro e w0 ⟨rfl, rfl⟩) | (go_at_call 15; refine (BC.out _).mono ?_; rintro e w1 ⟨rfl, rfl⟩) | (go_at_call 13; refine (S.out _).mono ?_; rintro e w2 ⟨rfl, hw2⟩))
    all_goals first | (exfalso; omega) | skip
    refine wp_region_held_drew (S := fun _ => True) (by kernel_rfl) trivial (fun hHeld => ?_)
    refine wpAnyH_take (i := 0) (oi := ⟨some 60, _, _, _, _, _⟩) (v := ?_) rfl (by kernel_rfl) (by kernel_rfl) (by kernel_rfl) (fun _ _ _ h => h) (Or.inl ⟨by kernel_rfl, ?_⟩) (by assumption) ?_
    case refine_2 => (intro w hSw; (try dsimp only at hSw); go_simp; (try with_reducible rfl))
    try simp only [Act.put, List.setIfInBounds_toArray, List.set_cons_zero, List.set_cons_succ]
    refine wpAnyH_take (i := 1) (oi := ⟨some 61, _, _, _, _, _⟩) (v := ?_) rfl (by kernel_rfl) (by kernel_rfl) (by kernel_rfl) (fun _ _ _ h => h) (Or.inl ⟨by kernel_rfl, ?_⟩) (by assumption) ?_
    case refine_2 => (intro w hSw; (try dsimp only at hSw); go_simp; (try with_reducible rfl))
    try simp only [Act.put, List.setIfInBounds_toArray, List.set_cons_zero, List.set_cons_succ]
    refine wpAnyH_take (i := 2) (oi := ⟨some 62, _, _, _, _, _⟩) (v := ?_) rfl (by kernel_rfl) (by kernel_rfl) (by kernel_rfl) (fun _ _ _ h => h) (Or.inl ⟨by kernel_rfl, ?_⟩) (by assumption) ?_
    case refine_2 => (intro w hSw; (try dsimp only at hSw); go_simp; (try with_reducible rfl))
    try simp only [Act.put, List.setIfInBounds_toArray, List.set_cons_zero, List.set_cons_succ]
    refine wpAnyH_take (i := 3) (oi := ⟨some 63, _, _, _, _, _⟩) (v := ?_) rfl (by kernel_rfl) (by kernel_rfl) (by kernel_rfl) (fun _ _ _ h => h) (Or.inl ⟨by kernel_rfl, ?_⟩) (by assumption) ?_
    case refine_2 => (intro w hSw; (try dsimp only at hSw); go_simp; (try with_reducible rfl))
    try simp only [Act.put, List.setIfInBounds_toArray, List.set_cons_zero, List.set_cons_succ]
    refine wpAnyH_take (i := 7) (oi := ⟨some 67, _, _, _, _, _⟩) (v := ?_) rfl (by kernel_rfl) (by kernel_rfl) (by kernel_rfl) (fun _ _ _ h => h) (Or.inl ⟨by kernel_rfl, ?_⟩) (by assumption) ?_
    case refine_2 => (intro w hSw; (try dsimp only at hSw); go_simp; (try with_reducible rfl))
    try simp only [Act.put, List.setIfInBounds_toArray, List.set_cons_zero, List.set_cons_succ]
    refine wpAnyH_take (i := 8) (oi := ⟨some 68, _, _, _, _, _⟩) (v := ?_) rfl (by kernel_rfl) (by kernel_rfl) (by kernel_rfl) (fun _ _ _ h => h) (Or.inl ⟨by kernel_rfl, ?_⟩) (by assumption) ?_
    case refine_2 => (intro w hSw; (try dsimp only at hSw); go_simp; (try with_reducible rfl))
    try simp only [Act.put, List.setIfInBounds_toArray, List.set_cons_zero, List.set_cons_succ]
    refine wpAnyH_take (i := 9) (oi := ⟨some 69, _, _, _, _, _⟩) (v := ?_) rfl (by kernel_rfl) (by kernel_rfl) (by kernel_rfl) (fun _ _ _ h => h) (Or.inl ⟨by kernel_rfl, ?_⟩) (by assumption) ?_
    case refine_2 => (intro w hSw; (try dsimp only at hSw); go_simp; (try with_reducible rfl))
    try simp only [Act.put, List.setIfInBounds_toArray, List.set_cons_zero, List.set_cons_succ]
    refine wpAnyH_ready (rs := [4]) (by kernel_rfl) (by simp) ?_
    refine AllReadyH.cons rfl (fun K hK => ?_) AllReadyH.nil
    go_simp
    refine hK.out _ _ ?_ (fun hHeld => ?_)
    case refine_1 => (exact trivial)
    clear hK K
    try simp only [Act.put, List.setIfInBounds_toArray, List.set_cons_zero, List.set_cons_succ]
    refine wpAnyH_ready (rs := [5]) (by kernel_rfl) (by simp) ?_
    refine AllReadyH.cons rfl (fun K hK => ?_) AllReadyH.nil
    go_simp
    refine hK.out _ _ ?_ (fun hHeld => ?_)
    case refine_1 => (exact trivial)
    clear hK K
    try simp only [Act.put, List.setIfInBounds_toArray, List.set_cons_zero, List.set_cons_succ]
    refine wpAnyH_take (i := 6) (oi := ⟨some 66, _, _, _, _, _⟩) (v := ?_) rfl (by kernel_rfl) (by kernel_rfl) (by kernel_rfl) (fun _ _ _ h => h) (Or.inl ⟨by kernel_rfl, ?_⟩) (by assumption) ?_
    case refine_2 => (intro w hSw; (try dsimp only at hSw); go_simp; (try with_reducible rfl))
    try simp only [Act.put, List.setIfInBounds_toArray, List.set_cons_zero, List.set_cons_succ]
    refine wpAnyH_take (i := 10) (oi := ⟨some 70, _, _, _, _, _⟩) (v := ?_) rfl (by kernel_rfl) (by kernel_rfl) (by kernel_rfl) (fun _ _ _ h => h) (Or.inl ⟨by kernel_rfl, ?_⟩) (by assumption) ?_
    case refine_2 => (intro w hSw; (try dsimp only at hSw); go_simp; (try with_reducible rfl))
    try simp only [Act.put, List.setIfInBounds_toArray, List.set_cons_zero, List.set_cons_succ]
    refine wpAnyH_take (i := 11) (oi := ⟨some 12, _, _, _, _, _⟩) (v := ?_) rfl (by kernel_rfl) (by kernel_rfl) (by kernel_rfl) (fun _ _ _ h => h) (Or.inl ⟨by kernel_rfl, ?_⟩) (by assumption) ?_
    case refine_2 => (intro w hSw; (try dsimp only at hSw); go_simp; (try with_reducible rfl))
    try simp only [Act.put, List.setIfInBounds_toArray, List.set_cons_zero, List.set_cons_succ]
    refine wpAnyH_done (by kernel_rfl) ?_ _
    have hb3 : Below w.heap.size w (w2.drew.alloc (.cells #[.int .u8 b] 5)) := hw2.trans (((Below.refl _ _).drew.alloc (Nat.le_refl _) _).mono hw2.size)
    have tok1 : True := trivial
    go_wp2_with (first
      | (go_at_call 11; refine (P2.out _ hb3).mono ?_; rintro e w4 ⟨rfl, hw4⟩; have hb4 := hb3.trans (hw4.mono hb3.size))
      | (go_at_call 12; refine (PU2.out _ (hb4.trans ((Below.refl _ _).alloc hb4.size _))).mono ?_; rintro e w5 ⟨rfl, hw5⟩; have hb5 := (hb4.trans ((Below.refl _ _).alloc hb4.size _)).trans (hw5.mono (Nat.le_trans hb4.size (by simp))); obtain ⟨hc5, hf5⟩ := bcell2 hw5; have hs5 : w4.heap.size < w5.heap.size := Nat.lt_of_lt_of_le (by simp) hw5.size)
      | (go_at_call 16; have _t := tok1; clear tok1; refine (TT1.out _).mono ?_; rintro e w6 ⟨rfl, hw6⟩; have hb6 := (hb5.trans ((Below.refl _ _).alloc hb5.size _)).trans (hw6.mono (Nat.le_trans hb5.size (by simp))); obtain ⟨hc6, hf6⟩ := bcell2 hw6)
      | (go_at_call 16; refine (TT2.out _).mono ?_; rintro e w7 ⟨rfl, hw7⟩; have hb7 := hb6.trans (hw7.mono hb6.size)))
    all_goals first | (exfalso; omega) | skip
    go_ret
    exact ⟨by simp, hb7⟩
end Go.Proofs.YtlnokggbejfocaaDoor.fnRefused
