/-
  Contract: internal/strconv.ParseInt at every text, base and size that are asked.
-/
import Derived.Test.YthbnglkpkgpojaaDoorParseUint
namespace Go.Proofs.YthbnglkpkgpojaaDoor
open Go.RowKit
set_option maxRecDepth 100000
set_option linter.unusedVariables false
set_option linter.unusedSimpArgs false
theorem iParseUint_nil (base bits : Int) (w : World) : Calls Tryd.prog 80 #[.string (str []), .int .i64 base, .int .i64 bits] w fun e w' => e = .returned (pUv 0 2) ∧ w = w' := by
  have hem : (str []).toList.isEmpty = true := by rw [Lib.toList_data]; rfl
  go_enter Tryd.func80, Tryd.ntmps80
  go_wp2_with fail
  go_ret2
  exact ⟨rfl, rfl⟩
theorem iParseUint_e (l : List UInt8) (base bits : Int) (w : World) (hb : base = 0 ∨ 2 ≤ base ∧ base ≤ 36) (hb0 : 0 ≤ bits) (hb64 : bits ≤ 64) (hl : l.length ≤ 140737488355328) :
    Calls Tryd.prog 80 #[.string (str l), .int .i64 base, .int .i64 bits] w fun e w' => e = .returned (pUv (pUe l base.toNat bits.toNat).1 (pUe l base.toNat bits.toNat).2) ∧ Below w.heap.size w w' := by
  by_cases h : l = []
  · subst h
    exact (iParseUint_nil base bits w).mono fun e w' ⟨h1, h2⟩ => ⟨by rw [h1]; rfl, by rw [← h2]; exact Below.refl _ _⟩
  · have := iParseUint_b l base bits w h hb hb0 hb64 hl
    rw [pUe, if_neg h]; exact this
theorem neq_err_21 (w : World) : (binOp .neq 49 (.iface 91 (.int .i64 2)) (.iface 91 (.int .i64 1))).run Tryd.prog w = .ok (.bool true) w := by kernel_rfl
theorem neq_err_11 (w : World) : (binOp .neq 49 (.iface 91 (.int .i64 1)) (.iface 91 (.int .i64 1))).run Tryd.prog w = .ok (.bool false) w := by kernel_rfl
def pIv (v : Int) (k : Nat) : Value := .tuple #[.int .i64 v, errV k]
theorem half_fin : ∀ B : Fin 65, 1 ≤ B.val → IntKind.u64.wrap ((2 : Int) ^ (B.val - 1)) = ((2 ^ (B.val - 1) : Nat) : Int) ∧ 2 ^ (B.val - 1) ≤ 9223372036854775808 ∧ 1 ≤ 2 ^ (B.val - 1) ∧ 2 ^ B.val - 1 ≤ 18446744073709551615 := by decide +kernel
theorem w63 : wrap64 9223372036854775808 = -9223372036854775808 := by unfold wrap64; omega
theorem neg_wrap (c : Int) (h0 : 0 ≤ c) (h : c ≤ 9223372036854775808) : wrap64 (-(wrap64 c)) = -c := by
  unfold wrap64; omega
set_option maxHeartbeats 8000000 in
theorem iParseInt_b (l : List UInt8) (base bits : Int) (w : World) (hne : l ≠ []) (hb : base = 0 ∨ 2 ≤ base ∧ base ≤ 36) (hb0 : 0 ≤ bits) (hb64 : bits ≤ 64) (hl : l.length ≤ 140737488355328) :
    Calls Tryd.prog 60 #[.string (str l), .int .i64 base, .int .i64 bits] w fun e w' => e = .returned (pIv (pIb l base.toNat bits.toNat).1 (pIb l base.toNat bits.toNat).2) ∧ Below w.heap.size w w' := by
  obtain ⟨R, hR⟩ : ∃ R, R = pIb l base.toNat bits.toNat := ⟨_, rfl⟩
  rw [← hR]
  obtain ⟨m, hm⟩ : ∃ m, m = noSign l := ⟨_, rfl⟩
  obtain ⟨ng, hng⟩ : ∃ ng : Bool, ng = decide (l[0]? = some 45) := ⟨_, rfl⟩
  obtain ⟨B, hB⟩ : ∃ B : Nat, B = (if bits.toNat = 0 then 64 else bits.toNat) := ⟨_, rfl⟩
  have hB1 : 1 ≤ B ∧ B ≤ 64 := by rw [hB]; split <;> omega
  obtain ⟨hh1, hh2, hh3, hh4⟩ := half_fin ⟨B, by omega⟩ hB1.1
  simp only at hh1 hh2 hh3 hh4
  have hml : m.length ≤ l.length := by rw [hm, noSign]; split <;> simp
  have C0 := iParseUint_e m base bits w hb hb0 hb64 (by omega)
  have hcode := pUe_code m base.toNat bits.toNat
  have hle := pUe_le m base.toNat bits.toNat
  rw [← hB] at hle
  obtain ⟨r, hr⟩ : ∃ r, r = pUe m base.toNat bits.toNat := ⟨_, rfl⟩
  rw [← hr] at C0 hcode hle
  obtain ⟨u, k⟩ := r
  simp only at C0 hcode hle
  have hR2 : R = if k = 2 then (0, 2) else if ng = false ∧ 2 ^ (B - 1) ≤ u then (((2 ^ (B - 1) : Nat) : Int) - 1, 1) else if ng = true ∧ 2 ^ (B - 1) < u then (-((2 ^ (B - 1) : Nat) : Int), 1) else (if ng = true then -(u : Int) else (u : Int), 0) := by
    rw [hR, pIb, ← hm, ← hr, ← hB]
    simp only [hng, decide_eq_true_eq, decide_eq_false_iff_not]
  obtain ⟨H, hH⟩ : ∃ H, H = 2 ^ (B - 1) := ⟨_, rfl⟩
  rw [← hH] at hR2 hh1 hh2 hh3
  obtain ⟨uI, huI⟩ : ∃ uI : Int, uI = u := ⟨_, rfl⟩
  obtain ⟨cI, hcI⟩ : ∃ cI : Int, cI = H := ⟨_, rfl⟩
  obtain ⟨BI, hBI⟩ : ∃ BI : Int, BI = B := ⟨_, rfl⟩
  obtain ⟨n, hn⟩ : ∃ n, n = l.length := ⟨_, rfl⟩
  have hn1 : 1 ≤ n := by rw [hn]; exact List.length_pos_iff.2 hne
  have eL : (str l).size = n := by rw [size_str, hn]
  have hem : (str l).toList.isEmpty = false := by rw [Lib.toList_data]; simpa [str] using hne
  have i3 : 1 ≤ BI := by omega
  have i4 : BI ≤ 64 := by omega
  have j1 : 1 ≤ cI := by omega
  have j2 : cI ≤ 9223372036854775808 := by omega
  have j3 : 0 ≤ uI := by omega
  have j4 : uI ≤ 18446744073709551615 := by omega
  have hsh : IntKind.u64.wrap (2 ^ (BI.toNat - 1)) = cI := by rw [show BI.toNat - 1 = B - 1 by omega, hh1, hcI]
  unfold pUv at C0
  rw [← huI] at C0
  have HR := Lib.hid hR2
  have C := Lib.hid C0
  have HM := Lib.hid hm
  have HNG := Lib.hid hng
  have HB := Lib.hid hB
  have HN := Lib.hid hn
  have HBI2 := Lib.hid hBI
  have HU := Lib.hid huI
  have HCI := Lib.hid hcI
  have HSH := Lib.hid hsh
  have E21 := neq_err_21
  have E11 := neq_err_11
  clear hR hR2 hm hng hB hn hBI huI hcI hsh hne hr hH C0 hh1 hh2 hh3 hh4 hle hB1
  obtain ⟨c, hc⟩ : ∃ c, l[0]? = some c := ⟨l[0]'(by rw [← HN.out]; exact hn1), List.getElem?_eq_getElem (by rw [← HN.out]; exact hn1)⟩
  have hidx := idx_str0 (P := Tryd.prog) 9 Tryd.underlying9 hc
  obtain ⟨y, hy⟩ : ∃ y : Int, y = c.toNat := ⟨_, rfl⟩
  rw [← hy] at hidx
  have HC := Lib.hid hc
  have HY := Lib.hid hy
  clear hc hy
  go_enter Tryd.func60, Tryd.ntmps60
  go_upto_block 0 with fail
  go_cut [0, 8] (fun v0 v8 wx => v0 = .string (str m) ∧ v8 = .bool ng ∧ w = wx)
  case first =>
    have hsl1 := slice_str1 (P := Tryd.prog) 9 Tryd.underlying9 l (by rw [← HN.out]; exact hn1)
    have hc := HC.out
    have hy := HY.out
    have hM45 : c = 45 → Hid (m = l.drop 1 ∧ ng = true) := fun h => ⟨by rw [HM.out, noSign, if_pos (.inl (by rw [hc, h]))], by rw [HNG.out, hc, h]; rfl⟩
    have hM43 : c = 43 → Hid (m = l.drop 1 ∧ ng = false) := fun h => ⟨by rw [HM.out, noSign, if_pos (.inr (by rw [hc, h]))], by rw [HNG.out, hc, h]; rfl⟩
    have hMo : c ≠ 45 → c ≠ 43 → Hid (m = l ∧ ng = false) := fun h1 h2 => ⟨by rw [HM.out, noSign, if_neg (by rw [hc]; simp [h1, h2])], by rw [HNG.out, hc]; simp [h1]⟩
    by_cases c43 : c = 43
    · have H := hM43 c43
      have y43 : (y == 43) = true := by rw [beq_iff_eq, hy]; exact (u8_int c 43 (by omega)).1 c43
      clear hM45 hM43 hMo hc hy c43
      go_wp2_with fail
      all_goals first | (exfalso; omega) | skip
      all_goals
        go_meet
        exact ⟨by rw [H.out.1, List.drop_one], by rw [H.out.2], rfl⟩
    · have y43 : (y == 43) = false := by rw [beq_eq_false_iff_ne, hy]; exact fun h => c43 ((u8_int c 43 (by omega)).2 h)
      by_cases c45 : c = 45
      · have H := hM45 c45
        have y45 : (y == 45) = true := by rw [beq_iff_eq, hy]; exact (u8_int c 45 (by omega)).1 c45
        clear hM45 hM43 hMo hc hy c43 c45
        go_wp2_with fail
        all_goals first | (exfalso; omega) | skip
        all_goals
          go_meet
          exact ⟨by rw [H.out.1, List.drop_one], by rw [H.out.2], rfl⟩
      · have H := hMo c45 c43
        have y45 : (y == 45) = false := by rw [beq_eq_false_iff_ne, hy]; exact fun h => c45 ((u8_int c 45 (by omega)).2 h)
        clear hM45 hM43 hMo hc hy c43 c45
        go_wp2_with fail
        all_goals first | (exfalso; omega) | skip
        all_goals
          go_meet
          exact ⟨by rw [H.out.1], by rw [H.out.2], rfl⟩
  case rest =>
    obtain ⟨rfl, rfl, rfl⟩ := hcut
    by_cases hk2 : k = 2
    · subst hk2
      have HE := Lib.hid (show R = (0, 2) by rw [HR.out, if_pos rfl])
      rw [show errV 2 = .iface 91 (.int .i64 2) from rfl] at C
      clear HR
      go_wp2_with (go_at_call 80; refine C.out.mono ?_; rintro e w1 ⟨rfl, hw1⟩)
      all_goals first | (exfalso; omega) | skip
      go_ret2
      exact ⟨by rw [HE.out]; rfl, hw1⟩
    · have HR' := Lib.hid (HR.out.trans (if_neg hk2))
      have hk01 : k = 0 ∨ k = 1 := by omega
      clear HR hcode hk2
      rcases hk01 with rfl | rfl
      · rw [show errV 0 = .nilIface from rfl] at C
        go_upto_if 41 with (go_at_call 80; refine C.out.mono ?_; rintro e w1 ⟨rfl, hw1⟩)
        all_goals first | (exfalso; omega) | skip
        go_cut [2] (fun v2 wx => v2 = .int .i64 BI ∧ w1 = wx)
        case first =>
          by_cases h0 : bits = 0
          · subst h0
            go_wp2_with fail
            all_goals first | (exfalso; omega) | skip
            all_goals
              go_meet
              exact ⟨by rw [HBI2.out, HB.out]; rfl, rfl⟩
          · have q3 : (bits == 0) = false := by simpa using h0
            go_wp2_with fail
            all_goals first | (exfalso; omega) | skip
            all_goals
              go_meet
              exact ⟨by rw [HBI2.out, HB.out, if_neg (by omega)]; congr 1; omega, rfl⟩
        case rest =>
          obtain ⟨rfl, rfl⟩ := hcut
          have hsh := HSH.out
          cases ng
          · by_cases e1 : cI ≤ uI
            · have HE := Lib.hid (show R = (cI - 1, 1) by rw [HR'.out, if_pos ⟨rfl, by have := HCI.out; have := HU.out; omega⟩, HCI.out])
              clear HR'
              go_wp2_with fail
              all_goals first | (exfalso; omega) | skip
              go_ret2
              exact ⟨by rw [HE.out]; rfl, hw1⟩
            · have HE := Lib.hid (show R = (uI, 0) by rw [HR'.out, if_neg (by have := HCI.out; have := HU.out; omega), if_neg (by simp), if_neg (by simp), HU.out])
              clear HR'
              go_wp2_with fail
              all_goals first | (exfalso; omega) | skip
              go_ret2
              exact ⟨by rw [HE.out]; rfl, hw1⟩
          · by_cases e1 : cI < uI
            · have HE := Lib.hid (show R = (-cI, 1) by rw [HR'.out, if_neg (by simp), if_pos ⟨rfl, by have := HCI.out; have := HU.out; omega⟩, HCI.out])
              clear HR'
              have hw2 := neg_wrap cI (by omega) j2
              by_cases e2 : cI = 9223372036854775808
              · have hw3 : wrap64 cI = -9223372036854775808 := by rw [e2]; exact w63
                have E2 := Lib.hid e2
                clear e2 hw2
                go_wp2_with fail
                all_goals first | (exfalso; omega) | skip
                go_ret2
                exact ⟨by rw [HE.out, E2.out]; show Ending.returned (.tuple #[.int .i64 (wrap64 9223372036854775808), .iface 91 (.int .i64 1)]) = _; rw [w63]; rfl, hw1⟩
              · have e3 : cI ≤ 9223372036854775807 := by omega
                clear e2
                go_wp2_with fail
                all_goals first | (exfalso; omega) | skip
                go_ret2
                exact ⟨by rw [HE.out]; rfl, hw1⟩
            · have HE := Lib.hid (show R = (-uI, 0) by rw [HR'.out, if_neg (by simp), if_neg (by have := HCI.out; have := HU.out; omega), if_pos rfl, HU.out])
              clear HR'
              by_cases e2 : uI = 9223372036854775808
              · have hw3 : wrap64 uI = -9223372036854775808 := by rw [e2]; exact w63
                have E2 := Lib.hid e2
                clear e2
                go_wp2_with fail
                all_goals first | (exfalso; omega) | skip
                go_ret2
                exact ⟨by rw [HE.out, E2.out]; show Ending.returned (.tuple #[.int .i64 (wrap64 9223372036854775808), .nilIface]) = _; rw [w63]; rfl, hw1⟩
              · have e3 : uI ≤ 9223372036854775807 := by omega
                clear e2
                go_wp2_with fail
                all_goals first | (exfalso; omega) | skip
                go_ret2
                exact ⟨by rw [HE.out]; rfl, hw1⟩
      · rw [show errV 1 = .iface 91 (.int .i64 1) from rfl] at C
        go_upto_if 41 with (go_at_call 80; refine C.out.mono ?_; rintro e w1 ⟨rfl, hw1⟩)
        all_goals first | (exfalso; omega) | skip
        go_cut [2] (fun v2 wx => v2 = .int .i64 BI ∧ w1 = wx)
        case first =>
          by_cases h0 : bits = 0
          · subst h0
            go_wp2_with fail
            all_goals first | (exfalso; omega) | skip
            all_goals
              go_meet
              exact ⟨by rw [HBI2.out, HB.out]; rfl, rfl⟩
          · have q3 : (bits == 0) = false := by simpa using h0
            go_wp2_with fail
            all_goals first | (exfalso; omega) | skip
            all_goals
              go_meet
              exact ⟨by rw [HBI2.out, HB.out, if_neg (by omega)]; congr 1; omega, rfl⟩
        case rest =>
          obtain ⟨rfl, rfl⟩ := hcut
          have hsh := HSH.out
          cases ng
          · by_cases e1 : cI ≤ uI
            · have HE := Lib.hid (show R = (cI - 1, 1) by rw [HR'.out, if_pos ⟨rfl, by have := HCI.out; have := HU.out; omega⟩, HCI.out])
              clear HR'
              go_wp2_with fail
              all_goals first | (exfalso; omega) | skip
              go_ret2
              exact ⟨by rw [HE.out]; rfl, hw1⟩
            · have HE := Lib.hid (show R = (uI, 0) by rw [HR'.out, if_neg (by have := HCI.out; have := HU.out; omega), if_neg (by simp), if_neg (by simp), HU.out])
              clear HR'
              go_wp2_with fail
              all_goals first | (exfalso; omega) | skip
              go_ret2
              exact ⟨by rw [HE.out]; rfl, hw1⟩
          · by_cases e1 : cI < uI
            · have HE := Lib.hid (show R = (-cI, 1) by rw [HR'.out, if_neg (by simp), if_pos ⟨rfl, by have := HCI.out; have := HU.out; omega⟩, HCI.out])
              clear HR'
              have hw2 := neg_wrap cI (by omega) j2
              by_cases e2 : cI = 9223372036854775808
              · have hw3 : wrap64 cI = -9223372036854775808 := by rw [e2]; exact w63
                have E2 := Lib.hid e2
                clear e2 hw2
                go_wp2_with fail
                all_goals first | (exfalso; omega) | skip
                go_ret2
                exact ⟨by rw [HE.out, E2.out]; show Ending.returned (.tuple #[.int .i64 (wrap64 9223372036854775808), .iface 91 (.int .i64 1)]) = _; rw [w63]; rfl, hw1⟩
              · have e3 : cI ≤ 9223372036854775807 := by omega
                clear e2
                go_wp2_with fail
                all_goals first | (exfalso; omega) | skip
                go_ret2
                exact ⟨by rw [HE.out]; rfl, hw1⟩
            · have HE := Lib.hid (show R = (-uI, 0) by rw [HR'.out, if_neg (by simp), if_neg (by have := HCI.out; have := HU.out; omega), if_pos rfl, HU.out])
              clear HR'
              by_cases e2 : uI = 9223372036854775808
              · have hw3 : wrap64 uI = -9223372036854775808 := by rw [e2]; exact w63
                have E2 := Lib.hid e2
                clear e2
                go_wp2_with fail
                all_goals first | (exfalso; omega) | skip
                go_ret2
                exact ⟨by rw [HE.out, E2.out]; show Ending.returned (.tuple #[.int .i64 (wrap64 9223372036854775808), .nilIface]) = _; rw [w63]; rfl, hw1⟩
              · have e3 : uI ≤ 9223372036854775807 := by omega
                clear e2
                go_wp2_with fail
                all_goals first | (exfalso; omega) | skip
                go_ret2
                exact ⟨by rw [HE.out]; rfl, hw1⟩
end Go.Proofs.YthbnglkpkgpojaaDoor
