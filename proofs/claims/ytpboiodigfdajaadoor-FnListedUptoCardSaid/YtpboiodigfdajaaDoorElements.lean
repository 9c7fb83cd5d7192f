/-
  Contracts: spec.Decode is the first element of a text, spec.Elements all of them. Printed by wip/gen/elements.py.
-/
import Derived.Test.YtpboiodigfdajaaDoorPlainDecode
import Derived.Test.YtpboiodigfdajaaDoorSpecText
import Derived.Test.YtpboiodigfdajaaDoorCodePoint
import Derived.Test.YtpboiodigfdajaaDoorStrWords
import Derived.Test.YtpboiodigfdajaaDoorPrints
import Derived.Outline
namespace Go.Proofs.YtpboiodigfdajaaDoor
open Go.RowKit
set_option maxRecDepth 100000
set_option linter.unusedVariables false
set_option linter.unusedSimpArgs false
theorem idx_str2 {P : Program} (t : TypeId) (ht : P.underlying t = some .string) {l : List UInt8} {c : UInt8} (h : l[2]? = some c) (w : World) : (Instr.index t (.string (str l)) (.int .i64 2)).run P w = .ok (.int .u8 (c.toNat : Int)) w := idx_str t ht .i64 (i := 2) h w
theorem idx_str3 {P : Program} (t : TypeId) (ht : P.underlying t = some .string) {l : List UInt8} {c : UInt8} (h : l[3]? = some c) (w : World) : (Instr.index t (.string (str l)) (.int .i64 3)).run P w = .ok (.int .u8 (c.toNat : Int)) w := idx_str t ht .i64 (i := 3) h w
theorem at_of {l : List UInt8} {n i : Nat} (hn : n = l.length) (h : i < n) : ∃ c, l[i]? = some c := ⟨l[i]'(by omega), List.getElem?_eq_getElem (by omega)⟩
set_option maxHeartbeats 8000000 in
theorem decode_any (l : List UInt8) (hne : l ≠ []) (w : World) (hl : l.length ≤ 140737488355328) :
    Calls Tryd.prog 34 #[.string (str l)] w fun e w' => e = .returned (.tuple #[.int .i32 (stepL l).1, .int .i64 ((stepL l).2 : Int)]) ∧ Below w.heap.size w w' := by
  obtain ⟨n, hn⟩ : ∃ n, n = l.length := ⟨_, rfl⟩
  have eL : (str l).size = n := by rw [size_str, hn]
  have hn1 : 1 ≤ n := by rw [hn]; exact List.length_pos_iff.2 hne
  rw [← hn] at hl
  obtain ⟨c0, h0⟩ := at_of hn (i := 0) (by omega)
  have x0 := idx_str0 (P := Tryd.prog) 9 Tryd.underlying9 h0
  obtain ⟨y0, e0⟩ : ∃ y : Int, y = (c0.toNat : Int) := ⟨_, rfl⟩
  rw [← e0] at x0
  have b0 : 0 ≤ y0 := by omega
  have b0' : y0 ≤ 255 := by have := c0.toNat_lt; omega
  have ECP := Lib.hid (fun (r : Int) wx => isCodePoint_any r wx)
  have EEN := Lib.hid (fun (r : Int) wx h0 h1 => encode_any r wx h0 h1)
  by_cases k1 : y0 < 128
  · skip
    have HE := Lib.hid (show stepL l = (y0, 1) by rw [dec_1 h0 (by omega), e0])
    clear hn h0 e0 hne ECP EEN
    go_enter Tryd.func34, Tryd.ntmps34
    go_wp2_with fail
    all_goals first | (exfalso; omega) | skip
    go_ret2
    exact ⟨by rw [HE.out]; rfl, Below.refl _ _⟩
  by_cases k2 : y0 < 192
  · skip
    have HE := Lib.hid (show stepL l = (-1 - y0, 1) by rw [dec_bad0 h0 (.inl (by omega)), e0])
    clear hn h0 e0 hne ECP EEN
    go_enter Tryd.func34, Tryd.ntmps34
    go_wp2_with fail
    all_goals first | (exfalso; omega) | skip
    go_ret2
    exact ⟨by rw [HE.out]; rfl, Below.refl _ _⟩
  by_cases k3 : 248 ≤ y0
  · skip
    have HE := Lib.hid (show stepL l = (-1 - y0, 1) by rw [dec_bad0 h0 (.inr (by omega)), e0])
    clear hn h0 e0 hne ECP EEN
    go_enter Tryd.func34, Tryd.ntmps34
    go_wp2_with fail
    all_goals first | (exfalso; omega) | skip
    go_ret2
    exact ⟨by rw [HE.out]; rfl, Below.refl _ _⟩
  by_cases k4 : y0 < 224
  · skip
    by_cases ks : n < 2
    · skip
      have HE := Lib.hid (show stepL l = (-1 - y0, 1) by rw [dec_short h0 (by omega), e0])
      clear hn h0 e0 hne ECP EEN
      go_enter Tryd.func34, Tryd.ntmps34
      go_wp2_with fail
      all_goals first | (exfalso; omega) | skip
      go_ret2
      exact ⟨by rw [HE.out]; rfl, Below.refl _ _⟩
    obtain ⟨c1, h1⟩ := at_of hn (i := 1) (by omega)
    have x1 := idx_str1 (P := Tryd.prog) 9 Tryd.underlying9 h1
    obtain ⟨y1, e1⟩ : ∃ y : Int, y = (c1.toNat : Int) := ⟨_, rfl⟩
    rw [← e1] at x1
    have b1 : 0 ≤ y1 := by omega
    have b1' : y1 ≤ 255 := by have := c1.toNat_lt; omega
    by_cases z1 : y1 < 128
    · skip
      have HE := Lib.hid (show stepL l = (-1 - y0, 1) by rw [dec_c1 h0 h1 (by omega) (.inl (by omega)), e0])
      clear hn h0 e0 hne ECP EEN h1 e1
      go_enter Tryd.func34, Tryd.ntmps34
      go_wp2_with fail
      all_goals first | (exfalso; omega) | skip
      refine wp_loop_rounds 1 ?_
      rw [rounds_succ]
      go_wp2_with fail
      all_goals first | (exfalso; omega) | skip
      go_ret2
      exact ⟨by rw [HE.out]; rfl, Below.refl _ _⟩
    by_cases z1' : 192 ≤ y1
    · skip
      have HE := Lib.hid (show stepL l = (-1 - y0, 1) by rw [dec_c1 h0 h1 (by omega) (.inr (by omega)), e0])
      clear hn h0 e0 hne ECP EEN h1 e1
      go_enter Tryd.func34, Tryd.ntmps34
      go_wp2_with fail
      all_goals first | (exfalso; omega) | skip
      refine wp_loop_rounds 1 ?_
      rw [rounds_succ]
      go_wp2_with fail
      all_goals first | (exfalso; omega) | skip
      go_ret2
      exact ⟨by rw [HE.out]; rfl, Below.refl _ _⟩
    obtain ⟨R1, r1⟩ : ∃ R : Int, R = (y0 - 192) * 64 + (y1 - 128) := ⟨_, rfl⟩
    have r1' := r1.symm
    have p1 : 0 ≤ R1 := by omega
    have p1' : R1 ≤ 2047 := by omega
    have CP := Lib.hid (fun wx => ECP.out R1 wx)
    cases hcp : isCP R1
    · rw [hcp] at CP
      have hcp' : ¬ (0 ≤ R1 ∧ R1 ≤ 1114111 ∧ (R1 < 55296 ∨ 57343 < R1)) := by simpa [isCP] using hcp
      exact absurd ⟨by omega, by omega, by omega⟩ hcp'
    rw [hcp] at CP
    have hcp' : 0 ≤ R1 ∧ R1 ≤ 1114111 ∧ (R1 < 55296 ∨ 57343 < R1) := by simpa [isCP] using hcp
    have EN := EEN.out R1
    have hel := encL_len R1
    obtain ⟨E, hE⟩ : ∃ E, E = encL R1 := ⟨_, rfl⟩
    obtain ⟨en, hen⟩ : ∃ en, en = E.length := ⟨_, rfl⟩
    have eE : (str E).size = en := by rw [size_str, hen]
    rw [← hE, ← hen] at hel
    have EN2 := Lib.hid (show ∀ wx, Calls Tryd.prog 30 #[.int .i32 R1] wx fun e w' => e = .returned (.string (str E)) ∧ Below wx.heap.size wx w' by rw [hE]; exact fun wx => EN wx hcp'.1 hcp'.2.1)
    by_cases hleast : R1 < 128
    · have hen2 : ((en : Int) == 2) = false := by simp; rw [hel]; (repeat' split) <;> omega
      have HE := Lib.hid (show stepL l = (-1 - y0, 1) by rw [dec_2 h0 h1 (by omega) (by omega), if_neg (by omega), e0])
      clear hn h0 e0 hne ECP EEN h1 e1 r1 hcp hcp' hE hen hel EN
      go_enter Tryd.func34, Tryd.ntmps34
      go_wp2_with fail
      all_goals first | (exfalso; omega) | skip
      refine wp_loop_rounds 2 ?_
      rw [rounds_succ]
      go_wp2_with fail
      all_goals first | (exfalso; omega) | skip
      rw [rounds_succ]
      go_wp2_with (first | (go_at_call 49; refine (CP.out _).mono ?_; rintro e w1 ⟨rfl, rfl⟩) | (go_at_call 30; refine (EN2.out _).mono ?_; rintro e w2 ⟨rfl, hw2⟩))
      all_goals first | (exfalso; omega) | skip
      go_ret2
      exact ⟨by rw [HE.out]; rfl, hw2⟩
    · have hen2 : en = 2 := by rw [hel]; (repeat' split) <;> omega
      subst hen2
      have HE := Lib.hid (show stepL l = (R1, 2) by rw [dec_2 h0 h1 (by omega) (by omega), if_pos (by omega)]; refine Prod.ext ?_ rfl; simp only; omega)
      clear hn h0 e0 hne ECP EEN h1 e1 r1 hcp hcp' hE hen hel EN
      go_enter Tryd.func34, Tryd.ntmps34
      go_wp2_with fail
      all_goals first | (exfalso; omega) | skip
      refine wp_loop_rounds 2 ?_
      rw [rounds_succ]
      go_wp2_with fail
      all_goals first | (exfalso; omega) | skip
      rw [rounds_succ]
      go_wp2_with (first | (go_at_call 49; refine (CP.out _).mono ?_; rintro e w1 ⟨rfl, rfl⟩) | (go_at_call 30; refine (EN2.out _).mono ?_; rintro e w2 ⟨rfl, hw2⟩))
      all_goals first | (exfalso; omega) | skip
      go_ret2
      exact ⟨by rw [HE.out]; rfl, hw2⟩
  by_cases k5 : y0 < 240
  · skip
    by_cases ks : n < 3
    · skip
      have HE := Lib.hid (show stepL l = (-1 - y0, 1) by rw [dec_short h0 (by omega), e0])
      clear hn h0 e0 hne ECP EEN
      go_enter Tryd.func34, Tryd.ntmps34
      go_wp2_with fail
      all_goals first | (exfalso; omega) | skip
      go_ret2
      exact ⟨by rw [HE.out]; rfl, Below.refl _ _⟩
    obtain ⟨c1, h1⟩ := at_of hn (i := 1) (by omega)
    have x1 := idx_str1 (P := Tryd.prog) 9 Tryd.underlying9 h1
    obtain ⟨y1, e1⟩ : ∃ y : Int, y = (c1.toNat : Int) := ⟨_, rfl⟩
    rw [← e1] at x1
    have b1 : 0 ≤ y1 := by omega
    have b1' : y1 ≤ 255 := by have := c1.toNat_lt; omega
    obtain ⟨c2, h2⟩ := at_of hn (i := 2) (by omega)
    have x2 := idx_str2 (P := Tryd.prog) 9 Tryd.underlying9 h2
    obtain ⟨y2, e2⟩ : ∃ y : Int, y = (c2.toNat : Int) := ⟨_, rfl⟩
    rw [← e2] at x2
    have b2 : 0 ≤ y2 := by omega
    have b2' : y2 ≤ 255 := by have := c2.toNat_lt; omega
    by_cases z1 : y1 < 128
    · skip
      have HE := Lib.hid (show stepL l = (-1 - y0, 1) by rw [dec_c1 h0 h1 (by omega) (.inl (by omega)), e0])
      clear hn h0 e0 hne ECP EEN h1 e1 h2 e2
      go_enter Tryd.func34, Tryd.ntmps34
      go_wp2_with fail
      all_goals first | (exfalso; omega) | skip
      refine wp_loop_rounds 1 ?_
      rw [rounds_succ]
      go_wp2_with fail
      all_goals first | (exfalso; omega) | skip
      go_ret2
      exact ⟨by rw [HE.out]; rfl, Below.refl _ _⟩
    by_cases z1' : 192 ≤ y1
    · skip
      have HE := Lib.hid (show stepL l = (-1 - y0, 1) by rw [dec_c1 h0 h1 (by omega) (.inr (by omega)), e0])
      clear hn h0 e0 hne ECP EEN h1 e1 h2 e2
      go_enter Tryd.func34, Tryd.ntmps34
      go_wp2_with fail
      all_goals first | (exfalso; omega) | skip
      refine wp_loop_rounds 1 ?_
      rw [rounds_succ]
      go_wp2_with fail
      all_goals first | (exfalso; omega) | skip
      go_ret2
      exact ⟨by rw [HE.out]; rfl, Below.refl _ _⟩
    obtain ⟨R1, r1⟩ : ∃ R : Int, R = (y0 - 224) * 64 + (y1 - 128) := ⟨_, rfl⟩
    have r1' := r1.symm
    have p1 : 0 ≤ R1 := by omega
    have p1' : R1 ≤ 1023 := by omega
    by_cases z2 : y2 < 128
    · skip
      have HE := Lib.hid (show stepL l = (-1 - y0, 1) by rw [dec_c2 h0 h2 (by omega) (.inl (by omega)), e0])
      clear hn h0 e0 hne ECP EEN h1 e1 h2 e2 r1
      go_enter Tryd.func34, Tryd.ntmps34
      go_wp2_with fail
      all_goals first | (exfalso; omega) | skip
      refine wp_loop_rounds 2 ?_
      rw [rounds_succ]
      go_wp2_with fail
      all_goals first | (exfalso; omega) | skip
      rw [rounds_succ]
      go_wp2_with fail
      all_goals first | (exfalso; omega) | skip
      go_ret2
      exact ⟨by rw [HE.out]; rfl, Below.refl _ _⟩
    by_cases z2' : 192 ≤ y2
    · skip
      have HE := Lib.hid (show stepL l = (-1 - y0, 1) by rw [dec_c2 h0 h2 (by omega) (.inr (by omega)), e0])
      clear hn h0 e0 hne ECP EEN h1 e1 h2 e2 r1
      go_enter Tryd.func34, Tryd.ntmps34
      go_wp2_with fail
      all_goals first | (exfalso; omega) | skip
      refine wp_loop_rounds 2 ?_
      rw [rounds_succ]
      go_wp2_with fail
      all_goals first | (exfalso; omega) | skip
      rw [rounds_succ]
      go_wp2_with fail
      all_goals first | (exfalso; omega) | skip
      go_ret2
      exact ⟨by rw [HE.out]; rfl, Below.refl _ _⟩
    obtain ⟨R2, r2⟩ : ∃ R : Int, R = R1 * 64 + (y2 - 128) := ⟨_, rfl⟩
    have r2' := r2.symm
    have p2 : 0 ≤ R2 := by omega
    have p2' : R2 ≤ 65535 := by omega
    have CP := Lib.hid (fun wx => ECP.out R2 wx)
    cases hcp : isCP R2
    · rw [hcp] at CP
      have hcp' : ¬ (0 ≤ R2 ∧ R2 ≤ 1114111 ∧ (R2 < 55296 ∨ 57343 < R2)) := by simpa [isCP] using hcp
      have HE := Lib.hid (show stepL l = (-1 - y0, 1) by rw [dec_3 h0 h1 h2 (by omega) (by omega) (by omega), if_neg (by omega), e0])
      clear hn h0 e0 hne ECP EEN h1 e1 h2 e2 r1 r2 hcp hcp'
      go_enter Tryd.func34, Tryd.ntmps34
      go_wp2_with fail
      all_goals first | (exfalso; omega) | skip
      refine wp_loop_rounds 3 ?_
      rw [rounds_succ]
      go_wp2_with fail
      all_goals first | (exfalso; omega) | skip
      rw [rounds_succ]
      go_wp2_with fail
      all_goals first | (exfalso; omega) | skip
      rw [rounds_succ]
      go_wp2_with (go_at_call 49; refine (CP.out _).mono ?_; rintro e w1 ⟨rfl, rfl⟩)
      all_goals first | (exfalso; omega) | skip
      go_ret2
      exact ⟨by rw [HE.out]; rfl, Below.refl _ _⟩
    rw [hcp] at CP
    have hcp' : 0 ≤ R2 ∧ R2 ≤ 1114111 ∧ (R2 < 55296 ∨ 57343 < R2) := by simpa [isCP] using hcp
    have EN := EEN.out R2
    have hel := encL_len R2
    obtain ⟨E, hE⟩ : ∃ E, E = encL R2 := ⟨_, rfl⟩
    obtain ⟨en, hen⟩ : ∃ en, en = E.length := ⟨_, rfl⟩
    have eE : (str E).size = en := by rw [size_str, hen]
    rw [← hE, ← hen] at hel
    have EN2 := Lib.hid (show ∀ wx, Calls Tryd.prog 30 #[.int .i32 R2] wx fun e w' => e = .returned (.string (str E)) ∧ Below wx.heap.size wx w' by rw [hE]; exact fun wx => EN wx hcp'.1 hcp'.2.1)
    by_cases hleast : R2 < 2048
    · have hen2 : ((en : Int) == 3) = false := by simp; rw [hel]; (repeat' split) <;> omega
      have HE := Lib.hid (show stepL l = (-1 - y0, 1) by rw [dec_3 h0 h1 h2 (by omega) (by omega) (by omega), if_neg (by omega), e0])
      clear hn h0 e0 hne ECP EEN h1 e1 h2 e2 r1 r2 hcp hcp' hE hen hel EN
      go_enter Tryd.func34, Tryd.ntmps34
      go_wp2_with fail
      all_goals first | (exfalso; omega) | skip
      refine wp_loop_rounds 3 ?_
      rw [rounds_succ]
      go_wp2_with fail
      all_goals first | (exfalso; omega) | skip
      rw [rounds_succ]
      go_wp2_with fail
      all_goals first | (exfalso; omega) | skip
      rw [rounds_succ]
      go_wp2_with (first | (go_at_call 49; refine (CP.out _).mono ?_; rintro e w1 ⟨rfl, rfl⟩) | (go_at_call 30; refine (EN2.out _).mono ?_; rintro e w2 ⟨rfl, hw2⟩))
      all_goals first | (exfalso; omega) | skip
      go_ret2
      exact ⟨by rw [HE.out]; rfl, hw2⟩
    · have hen2 : en = 3 := by rw [hel]; (repeat' split) <;> omega
      subst hen2
      have HE := Lib.hid (show stepL l = (R2, 3) by rw [dec_3 h0 h1 h2 (by omega) (by omega) (by omega), if_pos (by omega)]; refine Prod.ext ?_ rfl; simp only; omega)
      clear hn h0 e0 hne ECP EEN h1 e1 h2 e2 r1 r2 hcp hcp' hE hen hel EN
      go_enter Tryd.func34, Tryd.ntmps34
      go_wp2_with fail
      all_goals first | (exfalso; omega) | skip
      refine wp_loop_rounds 3 ?_
      rw [rounds_succ]
      go_wp2_with fail
      all_goals first | (exfalso; omega) | skip
      rw [rounds_succ]
      go_wp2_with fail
      all_goals first | (exfalso; omega) | skip
      rw [rounds_succ]
      go_wp2_with (first | (go_at_call 49; refine (CP.out _).mono ?_; rintro e w1 ⟨rfl, rfl⟩) | (go_at_call 30; refine (EN2.out _).mono ?_; rintro e w2 ⟨rfl, hw2⟩))
      all_goals first | (exfalso; omega) | skip
      go_ret2
      exact ⟨by rw [HE.out]; rfl, hw2⟩
  by_cases ks : n < 4
  · skip
    have HE := Lib.hid (show stepL l = (-1 - y0, 1) by rw [dec_short h0 (by omega), e0])
    clear hn h0 e0 hne ECP EEN
    go_enter Tryd.func34, Tryd.ntmps34
    go_wp2_with fail
    all_goals first | (exfalso; omega) | skip
    go_ret2
    exact ⟨by rw [HE.out]; rfl, Below.refl _ _⟩
  obtain ⟨c1, h1⟩ := at_of hn (i := 1) (by omega)
  have x1 := idx_str1 (P := Tryd.prog) 9 Tryd.underlying9 h1
  obtain ⟨y1, e1⟩ : ∃ y : Int, y = (c1.toNat : Int) := ⟨_, rfl⟩
  rw [← e1] at x1
  have b1 : 0 ≤ y1 := by omega
  have b1' : y1 ≤ 255 := by have := c1.toNat_lt; omega
  obtain ⟨c2, h2⟩ := at_of hn (i := 2) (by omega)
  have x2 := idx_str2 (P := Tryd.prog) 9 Tryd.underlying9 h2
  obtain ⟨y2, e2⟩ : ∃ y : Int, y = (c2.toNat : Int) := ⟨_, rfl⟩
  rw [← e2] at x2
  have b2 : 0 ≤ y2 := by omega
  have b2' : y2 ≤ 255 := by have := c2.toNat_lt; omega
  obtain ⟨c3, h3⟩ := at_of hn (i := 3) (by omega)
  have x3 := idx_str3 (P := Tryd.prog) 9 Tryd.underlying9 h3
  obtain ⟨y3, e3⟩ : ∃ y : Int, y = (c3.toNat : Int) := ⟨_, rfl⟩
  rw [← e3] at x3
  have b3 : 0 ≤ y3 := by omega
  have b3' : y3 ≤ 255 := by have := c3.toNat_lt; omega
  by_cases z1 : y1 < 128
  · skip
    have HE := Lib.hid (show stepL l = (-1 - y0, 1) by rw [dec_c1 h0 h1 (by omega) (.inl (by omega)), e0])
    clear hn h0 e0 hne ECP EEN h1 e1 h2 e2 h3 e3
    go_enter Tryd.func34, Tryd.ntmps34
    go_wp2_with fail
    all_goals first | (exfalso; omega) | skip
    refine wp_loop_rounds 1 ?_
    rw [rounds_succ]
    go_wp2_with fail
    all_goals first | (exfalso; omega) | skip
    go_ret2
    exact ⟨by rw [HE.out]; rfl, Below.refl _ _⟩
  by_cases z1' : 192 ≤ y1
  · skip
    have HE := Lib.hid (show stepL l = (-1 - y0, 1) by rw [dec_c1 h0 h1 (by omega) (.inr (by omega)), e0])
    clear hn h0 e0 hne ECP EEN h1 e1 h2 e2 h3 e3
    go_enter Tryd.func34, Tryd.ntmps34
    go_wp2_with fail
    all_goals first | (exfalso; omega) | skip
    refine wp_loop_rounds 1 ?_
    rw [rounds_succ]
    go_wp2_with fail
    all_goals first | (exfalso; omega) | skip
    go_ret2
    exact ⟨by rw [HE.out]; rfl, Below.refl _ _⟩
  obtain ⟨R1, r1⟩ : ∃ R : Int, R = (y0 - 240) * 64 + (y1 - 128) := ⟨_, rfl⟩
  have r1' := r1.symm
  have p1 : 0 ≤ R1 := by omega
  have p1' : R1 ≤ 511 := by omega
  by_cases z2 : y2 < 128
  · skip
    have HE := Lib.hid (show stepL l = (-1 - y0, 1) by rw [dec_c2 h0 h2 (by omega) (.inl (by omega)), e0])
    clear hn h0 e0 hne ECP EEN h1 e1 h2 e2 h3 e3 r1
    go_enter Tryd.func34, Tryd.ntmps34
    go_wp2_with fail
    all_goals first | (exfalso; omega) | skip
    refine wp_loop_rounds 2 ?_
    rw [rounds_succ]
    go_wp2_with fail
    all_goals first | (exfalso; omega) | skip
    rw [rounds_succ]
    go_wp2_with fail
    all_goals first | (exfalso; omega) | skip
    go_ret2
    exact ⟨by rw [HE.out]; rfl, Below.refl _ _⟩
  by_cases z2' : 192 ≤ y2
  · skip
    have HE := Lib.hid (show stepL l = (-1 - y0, 1) by rw [dec_c2 h0 h2 (by omega) (.inr (by omega)), e0])
    clear hn h0 e0 hne ECP EEN h1 e1 h2 e2 h3 e3 r1
    go_enter Tryd.func34, Tryd.ntmps34
    go_wp2_with fail
    all_goals first | (exfalso; omega) | skip
    refine wp_loop_rounds 2 ?_
    rw [rounds_succ]
    go_wp2_with fail
    all_goals first | (exfalso; omega) | skip
    rw [rounds_succ]
    go_wp2_with fail
    all_goals first | (exfalso; omega) | skip
    go_ret2
    exact ⟨by rw [HE.out]; rfl, Below.refl _ _⟩
  obtain ⟨R2, r2⟩ : ∃ R : Int, R = R1 * 64 + (y2 - 128) := ⟨_, rfl⟩
  have r2' := r2.symm
  have p2 : 0 ≤ R2 := by omega
  have p2' : R2 ≤ 32767 := by omega
  by_cases z3 : y3 < 128
  · skip
    have HE := Lib.hid (show stepL l = (-1 - y0, 1) by rw [dec_c3 h0 h3 (by omega) (.inl (by omega)), e0])
    clear hn h0 e0 hne ECP EEN h1 e1 h2 e2 h3 e3 r1 r2
    go_enter Tryd.func34, Tryd.ntmps34
    go_wp2_with fail
    all_goals first | (exfalso; omega) | skip
    refine wp_loop_rounds 3 ?_
    rw [rounds_succ]
    go_wp2_with fail
    all_goals first | (exfalso; omega) | skip
    rw [rounds_succ]
    go_wp2_with fail
    all_goals first | (exfalso; omega) | skip
    rw [rounds_succ]
    go_wp2_with fail
    all_goals first | (exfalso; omega) | skip
    go_ret2
    exact ⟨by rw [HE.out]; rfl, Below.refl _ _⟩
  by_cases z3' : 192 ≤ y3
  · skip
    have HE := Lib.hid (show stepL l = (-1 - y0, 1) by rw [dec_c3 h0 h3 (by omega) (.inr (by omega)), e0])
    clear hn h0 e0 hne ECP EEN h1 e1 h2 e2 h3 e3 r1 r2
    go_enter Tryd.func34, Tryd.ntmps34
    go_wp2_with fail
    all_goals first | (exfalso; omega) | skip
    refine wp_loop_rounds 3 ?_
    rw [rounds_succ]
    go_wp2_with fail
    all_goals first | (exfalso; omega) | skip
    rw [rounds_succ]
    go_wp2_with fail
    all_goals first | (exfalso; omega) | skip
    rw [rounds_succ]
    go_wp2_with fail
    all_goals first | (exfalso; omega) | skip
    go_ret2
    exact ⟨by rw [HE.out]; rfl, Below.refl _ _⟩
  obtain ⟨R3, r3⟩ : ∃ R : Int, R = R2 * 64 + (y3 - 128) := ⟨_, rfl⟩
  have r3' := r3.symm
  have p3 : 0 ≤ R3 := by omega
  have p3' : R3 ≤ 2097151 := by omega
  have CP := Lib.hid (fun wx => ECP.out R3 wx)
  cases hcp : isCP R3
  · rw [hcp] at CP
    have hcp' : ¬ (0 ≤ R3 ∧ R3 ≤ 1114111 ∧ (R3 < 55296 ∨ 57343 < R3)) := by simpa [isCP] using hcp
    have HE := Lib.hid (show stepL l = (-1 - y0, 1) by rw [dec_4 h0 h1 h2 h3 (by omega) (by omega) (by omega) (by omega), if_neg (by omega), e0])
    clear hn h0 e0 hne ECP EEN h1 e1 h2 e2 h3 e3 r1 r2 r3 hcp hcp'
    go_enter Tryd.func34, Tryd.ntmps34
    go_wp2_with fail
    all_goals first | (exfalso; omega) | skip
    refine wp_loop_rounds 4 ?_
    rw [rounds_succ]
    go_wp2_with fail
    all_goals first | (exfalso; omega) | skip
    rw [rounds_succ]
    go_wp2_with fail
    all_goals first | (exfalso; omega) | skip
    rw [rounds_succ]
    go_wp2_with fail
    all_goals first | (exfalso; omega) | skip
    rw [rounds_succ]
    go_wp2_with (go_at_call 49; refine (CP.out _).mono ?_; rintro e w1 ⟨rfl, rfl⟩)
    all_goals first | (exfalso; omega) | skip
    go_ret2
    exact ⟨by rw [HE.out]; rfl, Below.refl _ _⟩
  rw [hcp] at CP
  have hcp' : 0 ≤ R3 ∧ R3 ≤ 1114111 ∧ (R3 < 55296 ∨ 57343 < R3) := by simpa [isCP] using hcp
  have EN := EEN.out R3
  have hel := encL_len R3
  obtain ⟨E, hE⟩ : ∃ E, E = encL R3 := ⟨_, rfl⟩
  obtain ⟨en, hen⟩ : ∃ en, en = E.length := ⟨_, rfl⟩
  have eE : (str E).size = en := by rw [size_str, hen]
  rw [← hE, ← hen] at hel
  have EN2 := Lib.hid (show ∀ wx, Calls Tryd.prog 30 #[.int .i32 R3] wx fun e w' => e = .returned (.string (str E)) ∧ Below wx.heap.size wx w' by rw [hE]; exact fun wx => EN wx hcp'.1 hcp'.2.1)
  by_cases hleast : R3 < 65536
  · have hen2 : ((en : Int) == 4) = false := by simp; rw [hel]; (repeat' split) <;> omega
    have HE := Lib.hid (show stepL l = (-1 - y0, 1) by rw [dec_4 h0 h1 h2 h3 (by omega) (by omega) (by omega) (by omega), if_neg (by omega), e0])
    clear hn h0 e0 hne ECP EEN h1 e1 h2 e2 h3 e3 r1 r2 r3 hcp hcp' hE hen hel EN
    go_enter Tryd.func34, Tryd.ntmps34
    go_wp2_with fail
    all_goals first | (exfalso; omega) | skip
    refine wp_loop_rounds 4 ?_
    rw [rounds_succ]
    go_wp2_with fail
    all_goals first | (exfalso; omega) | skip
    rw [rounds_succ]
    go_wp2_with fail
    all_goals first | (exfalso; omega) | skip
    rw [rounds_succ]
    go_wp2_with fail
    all_goals first | (exfalso; omega) | skip
    rw [rounds_succ]
    go_wp2_with (first | (go_at_call 49; refine (CP.out _).mono ?_; rintro e w1 ⟨rfl, rfl⟩) | (go_at_call 30; refine (EN2.out _).mono ?_; rintro e w2 ⟨rfl, hw2⟩))
    all_goals first | (exfalso; omega) | skip
    go_ret2
    exact ⟨by rw [HE.out]; rfl, hw2⟩
  · have hen2 : en = 4 := by rw [hel]; (repeat' split) <;> omega
    subst hen2
    have HE := Lib.hid (show stepL l = (R3, 4) by rw [dec_4 h0 h1 h2 h3 (by omega) (by omega) (by omega) (by omega), if_pos (by omega)]; refine Prod.ext ?_ rfl; simp only; omega)
    clear hn h0 e0 hne ECP EEN h1 e1 h2 e2 h3 e3 r1 r2 r3 hcp hcp' hE hen hel EN
    go_enter Tryd.func34, Tryd.ntmps34
    go_wp2_with fail
    all_goals first | (exfalso; omega) | skip
    refine wp_loop_rounds 4 ?_
    rw [rounds_succ]
    go_wp2_with fail
    all_goals first | (exfalso; omega) | skip
    rw [rounds_succ]
    go_wp2_with fail
    all_goals first | (exfalso; omega) | skip
    rw [rounds_succ]
    go_wp2_with fail
    all_goals first | (exfalso; omega) | skip
    rw [rounds_succ]
    go_wp2_with (first | (go_at_call 49; refine (CP.out _).mono ?_; rintro e w1 ⟨rfl, rfl⟩) | (go_at_call 30; refine (EN2.out _).mono ?_; rintro e w2 ⟨rfl, hw2⟩))
    all_goals first | (exfalso; omega) | skip
    go_ret2
    exact ⟨by rw [HE.out]; rfl, hw2⟩
theorem int32_info : (Tryd.prog.info? 21).map (fun i => (i.zero, i.size, i.bytes)) = some (some (.int .i32 0), 1, 4) := by kernel_rfl
theorem stepL_bounds (l : List UInt8) : -256 ≤ (stepL l).1 ∧ (stepL l).1 ≤ 1114111 := by
  rcases stepL_valid l with h | h
  · have : 0 ≤ (stepL l).1 ∧ (stepL l).1 ≤ 1114111 ∧ ((stepL l).1 < 55296 ∨ 57343 < (stepL l).1) := by simpa [isCP] using h
    omega
  · omega
def strLen (v : Value) : Nat := match v with | .string x => x.size | _ => 0
set_option maxHeartbeats 4000000 in
theorem elements_any (l : List UInt8) (w : World) (hl : l.length ≤ 10485760) : Calls Tryd.prog 15 #[.string (str l)] w fun e w' => ∃ v, e = .returned v ∧ Own 21 w.heap.size v (icells (elemsOf l)) w w' := by
  obtain ⟨i0, hi, hz0, hz1, hz2⟩ := info_parts int32_info
  have HS := Lib.hid (own_start w 21)
  obtain ⟨n, hn⟩ : ∃ n, n = l.length := ⟨_, rfl⟩
  have HN := Lib.hid hn
  rw [← hn] at hl
  clear hn
  go_enter Tryd.func15, Tryd.ntmps15
  go_wp2
  go_loopw [0, 3] (fun vs vo wr => ∃ (rest : List UInt8) (acc : List Int), vs = .string (str rest) ∧ acc.length + rest.length ≤ n ∧ Hid (acc ++ elemsOf rest = elemsOf l) ∧ Hid (Own 21 w.heap.size vo (icells acc) w wr)) (fun vs _ _ => strLen vs)
  case atStart => exact ⟨l, [], rfl, by have := HN.out; simp; omega, rfl, HS.out⟩
  case round =>
    obtain ⟨rest, acc, rfl, hle, hacc, ho⟩ := hrel
    by_cases h0 : rest = []
    · have hem : (str rest).toList.isEmpty = true := by rw [Lib.toList_data, h0]; rfl
      have HF := Lib.hid (show elemsOf l = acc by rw [← hacc.out, h0, elemsOf_nil, List.append_nil])
      have ho' := ho.out
      clear h0
      go_wp2_with fail
      go_ret
      exact ⟨_, rfl, by rw [HF.out]; exact ho'⟩
    · have hem : (str rest).toList.isEmpty = false := by rw [Lib.toList_data]; simpa [str] using h0
      obtain ⟨k, hk⟩ : ∃ k, k = rest.length := ⟨_, rfl⟩
      have eR : (str rest).size = k := by rw [size_str, hk]
      have D := decode_any rest h0 wr (by omega)
      have hp := stepL_pos rest
      have hp2 := stepL_le rest h0
      have hbd := stepL_bounds rest
      have hec := elemsOf_cons rest h0
      obtain ⟨R, hR⟩ : ∃ R, R = (stepL rest).1 := ⟨_, rfl⟩
      obtain ⟨K, hK⟩ : ∃ K, K = (stepL rest).2 := ⟨_, rfl⟩
      rw [← hR, ← hK] at D hec
      rw [← hK] at hp hp2
      rw [← hk] at hp2 hle
      have hsl := fun wx => slice_str_from (P := Tryd.prog) 9 Tryd.underlying9 .i64 rest K (by rw [← hk]; exact hp2) wx
      obtain ⟨KI, hKI⟩ : ∃ KI : Int, KI = (K : Int) := ⟨_, rfl⟩
      rw [← hKI] at D hsl
      have hdl := Lib.hid (show (rest.drop K).length = k - K by rw [List.length_drop, hk])
      have HA := Lib.hid (show (acc ++ [R]) ++ elemsOf (rest.drop K) = elemsOf l by rw [← hacc.out, hec, List.append_assoc]; rfl)
      have HI := Lib.hid (show icells (acc ++ [R]) = icells acc ++ [.int .i32 R] by simp [icells])
      have hxl : (icells acc).length ≤ 10485760 := by rw [icells_length]; omega
      obtain ⟨X, hX⟩ : ∃ X, X = icells acc := ⟨_, rfl⟩
      rw [← hX] at ho HI hxl
      have D := Lib.hid D
      have ho' := ho.out
      have HKI := Lib.hid hKI
      have HP := Lib.hid (And.intro hp hp2)
      have HK2 := Lib.hid hk
      have hlo : (X.length + 1) * 4 ≤ 140737488355328 := by omega
      have hlo2 : X.length + 1 ≤ 140737488355328 := by omega
      clear hR hK hec hX hk h0 hbd hKI hacc
      go_wp2_with (first
        | (go_at_call 34; refine D.out.mono ?_; rintro e w1 ⟨rfl, hw1⟩; have ho1 := ho'.below hw1)
        | (at_builtin; refine wpList_own_push rfl _ _ 22 rfl w.heap.size 21 i0 _ 4 Tryd.underlying22 hi hz0 hz1 hz2 rfl _ X rfl w _ _ rfl (by assumption) rfl hlo hlo2 ?_; intro v2 w2 ho2))
      go_roundw
      case rel => exact ⟨rest.drop K, acc ++ [R], rfl, by rw [hdl.out]; have := HP.out; simp; omega, HA.out, by rw [HI.out]; exact ho2⟩
      case measure =>
        show (str (rest.drop K)).size < (str rest).size
        rw [size_str, eR, hdl.out]; have := HP.out; omega
end Go.Proofs.YtpboiodigfdajaaDoor
