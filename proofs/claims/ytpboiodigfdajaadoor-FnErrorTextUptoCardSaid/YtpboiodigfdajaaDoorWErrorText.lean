/-
  The walk of laws.FnErrorText: it returns true. Printed by wip/gen/errtext.py.
-/
import Derived.Test.YtpboiodigfdajaaDoorErrText
import Derived.Test.YtpboiodigfdajaaDoorElements
import Derived.Test.YtpboiodigfdajaaDoorQuoted
import Derived.Test.YtpboiodigfdajaaDoorPlainText
import Derived.Outline
namespace Go.Proofs.YtpboiodigfdajaaDoor.fnErrorText
open Go.RowKit
set_option maxRecDepth 100000
set_option linter.unusedVariables false
set_option linter.unusedSimpArgs false
set_option maxHeartbeats 4000000 in
theorem walk (w : World) (a : ByteArray) (ha : a.size ≤ 1048576) (b : ByteArray) (hb : b.size ≤ 1048576) (k : Int) (hk : (Lit.int .i64 k).wf = true) (hL : laidMetH Tryd.prog Rows.fnErrorTextUptoRow.laid w) :
    Calls Tryd.prog 7 #[.string a, .string b, .int .i64 k] w fun e w' => e = .returned (.bool true) ∧ Below w.heap.size w w' := by
  obtain ⟨aS, aR, hE⟩ := errT_of hL (by kernel_rfl) (by simp [Rows.fnErrorTextUptoRow, Rows.laid_strconv_ErrSyntax, synText]) (by simp [Rows.fnErrorTextUptoRow, Rows.laid_strconv_ErrRange, rngText])
  have hT : PrintT w := printT_of hL (by kernel_rfl) (by simp [Rows.fnErrorTextUptoRow, Rows.laid_strconv_isPrint16]) (by simp [Rows.fnErrorTextUptoRow, Rows.laid_strconv_isNotPrint16]) (by simp [Rows.fnErrorTextUptoRow, Rows.laid_strconv_isPrint32]) (by simp [Rows.fnErrorTextUptoRow, Rows.laid_strconv_isNotPrint32])
  have hG : GraphicT w := graphicT_of hL (by kernel_rfl) (by simp [Rows.fnErrorTextUptoRow, Rows.laid_strconv_isGraphic])
  have hU : Utf8T w := utf8T_of hL (by kernel_rfl) (by simp [Rows.fnErrorTextUptoRow, Rows.laid_unicode_utf8_first]) (by simp [Rows.fnErrorTextUptoRow, Rows.laid_unicode_utf8_acceptRanges]; kernel_rfl)
  obtain ⟨fn, rfl⟩ : ∃ s, a = str s := ⟨a.data.toList, (str_toList a).symm⟩
  obtain ⟨s, rfl⟩ : ∃ s, b = str s := ⟨b.data.toList, (str_toList b).symm⟩
  rw [size_str] at ha hb
  have hv2 : ∀ x ∈ elemsOf s, -256 ≤ x ∧ x ≤ 1114111 ∧ ((stP false) x = true → 0 ≤ x) := fun x hx => by
    have h1 := elems_val s x hx
    have h2 : -256 ≤ x ∧ x ≤ 1114111 := by
      rcases h1 with h | h
      · omega
      · have := cp_bounds h; omega
    exact ⟨h2.1, h2.2, (okP _).nonneg x⟩
  have hv : ∀ x ∈ elemsOf s, -2147483648 ≤ x ∧ x ≤ 2147483647 := fun x hx => by have := hv2 x hx; omega
  have hel := elemsOf_length s
  have C1 := Lib.hid (elements_any s w (by omega))
  have ET := Lib.hid (fun wx (hbx : Below w.heap.size w wx) => ErrorText_any wx aS aR (hE.below hbx) fn s k (by omega) (by omega) (hT.below hbx) (hG.below hbx) (hU.below hbx))
  have ql := quoteL_length 34 (stP false) (elemsOf s)
  obtain ⟨q, hq⟩ : ∃ q, q = quoteL 34 (stP false) (elemsOf s) := ⟨_, rfl⟩
  rw [← hq] at ET ql
  have HLq := Lib.hid hq
  have HT := Lib.hid hT
  have HV := Lib.hid hv
  have HV2 := Lib.hid hv2
  obtain ⟨rs, hrs⟩ : ∃ rs, rs = reasonL k := ⟨_, rfl⟩
  rw [← hrs] at ET
  have rl : rs.length ≤ 20 := by rw [hrs, reasonL]; split <;> decide
  have k1 : (ByteArray.mk #[115, 116, 114, 99, 111, 110, 118, 46]) ++ str fn = str ([115, 116, 114, 99, 111, 110, 118, 46] ++ fn) := str_append [115, 116, 114, 99, 111, 110, 118, 46] fn
  obtain ⟨X1, e1⟩ : ∃ X, X = [115, 116, 114, 99, 111, 110, 118, 46] ++ fn := ⟨_, rfl⟩
  have k2 : str X1 ++ (ByteArray.mk #[58, 32, 112, 97, 114, 115, 105, 110, 103, 32]) = str (X1 ++ [58, 32, 112, 97, 114, 115, 105, 110, 103, 32]) := str_append X1 _
  obtain ⟨X3, e3⟩ : ∃ X, X = X1 ++ [58, 32, 112, 97, 114, 115, 105, 110, 103, 32] := ⟨_, rfl⟩
  have k4 : str X3 ++ str q = str (X3 ++ q) := str_append X3 q
  obtain ⟨X4, e4⟩ : ∃ X, X = X3 ++ q := ⟨_, rfl⟩
  have k5 : str X4 ++ (ByteArray.mk #[58, 32]) = str (X4 ++ [58, 32]) := str_append X4 [58, 32]
  obtain ⟨X5, e5⟩ : ∃ X, X = X4 ++ [58, 32] := ⟨_, rfl⟩
  have k6 : str X5 ++ str rs = str (X5 ++ rs) := str_append X5 rs
  obtain ⟨X6, e6⟩ : ∃ X, X = X5 ++ rs := ⟨_, rfl⟩
  have hX : errTextL fn q rs = X6 := by rw [errTextL, e6, e5, e4, e3, e1]; simp
  rw [hX] at ET
  have l1 : X1.length = 8 + fn.length := by rw [e1]; simp; omega
  have l3 : X3.length = 18 + fn.length := by rw [e3]; simp; omega
  have l4 : X4.length = 18 + fn.length + q.length := by rw [e4]; simp; omega
  have l5 : X5.length = 20 + fn.length + q.length := by rw [e5]; simp; omega
  have z1 : ¬ 9223372036854775807 < (str [115, 116, 114, 99, 111, 110, 118, 46]).size + (str fn).size := by rw [size_str, size_str]; simp; omega
  have z2 : ¬ 9223372036854775807 < (str X1).size + (str [58, 32, 112, 97, 114, 115, 105, 110, 103, 32]).size := by rw [size_str, size_str]; simp; omega
  have z4 : ¬ 9223372036854775807 < (str X3).size + (str q).size := by rw [size_str, size_str]; omega
  have z5 : ¬ 9223372036854775807 < (str X4).size + (str [58, 32]).size := by rw [size_str, size_str]; simp; omega
  have z6 : ¬ 9223372036854775807 < (str X5).size + (str rs).size := by rw [size_str, size_str]; omega
  have z1' : ¬ 9223372036854775807 < 8 + (str fn).size := by rw [size_str]; omega
  have z2' : ¬ 9223372036854775807 < (str X1).size + 10 := by rw [size_str]; omega
  have z5' : ¬ 9223372036854775807 < (str X4).size + 2 := by rw [size_str]; omega
  rw [← e1] at k1
  rw [← e3] at k2
  rw [← e4] at k4
  rw [← e5] at k5
  rw [← e6] at k6
  have hel2 : (elemsOf s).length ≤ 1048576 := by omega
  have HRS := Lib.hid hrs
  clear hL hT hG hU hE hq hv hv2 e1 e3 e4 e5 e6 l1 l3 l4 l5 hX ql hel rl hrs
  by_cases hk1 : k = 1
  · have hr1 : rs = synText := by rw [HRS.out, reasonL, if_pos hk1]
    have r1 : str rs = ByteArray.mk #[105, 110, 118, 97, 108, 105, 100, 32, 115, 121, 110, 116, 97, 120] := by rw [hr1]; rfl
    rw [r1] at k6 z6
    subst hk1
    clear hr1 r1
    go_enter Tryd.func7, Tryd.ntmps7
    go_wp2_with fail
    refine C1.out.mono ?_
    rintro e w1 ⟨v1, rfl, ho⟩
    obtain ⟨A, c, hv1, _, _, hR⟩ := ho.form
    rw [icells_length] at hv1 hR
    rw [hv1]
    have hb1 := ho.isBelow
    have HR := Lib.hid hR
    clear hv1 ho hR
    go_wp2_with fail
    refine (ET.out _ hb1).mono ?_
    rintro e w2 ⟨rfl, hw2⟩
    have hb2 : Below w.heap.size w w2 := hb1.trans (hw2.mono hb1.size)
    have hR2 : Reads w2 w2.heap.size 1 A (elemsOf s).length (icells (elemsOf s)) := (HR.out.below hw2).more hw2.size
    have C3 := Lib.hid (prints_any A c (elemsOf s) false w2 hR2 HV.out hel2 (HT.out.below hb2))
    have HR2 := Lib.hid hR2
    clear hR2
    go_wp2_with fail
    refine C3.out.mono ?_
    rintro e w3 ⟨v3, rfl, ho3⟩
    obtain ⟨A3, c3, hv3, _, _, hR3⟩ := ho3.form
    rw [tcells_length, List.length_map] at hv3 hR3
    rw [hv3]
    have hb3 : Below w.heap.size w w3 := hb2.trans (ho3.isBelow.mono hb2.size)
    have C4 := Lib.hid (quoted_any A A3 c c3 (elemsOf s) (stP false) 34 w3 ((HR2.out.below ho3.isBelow).more ho3.isBelow.size) hR3 HV2.out (by omega) (.inl rfl))
    rw [← HLq.out] at C4
    clear hv3 hR3 ho3
    go_wp2_with fail
    refine C4.out.mono ?_
    rintro e w4 ⟨rfl, hw4⟩
    go_wp2_with fail
    go_ret
    exact ⟨by simp, hb3.trans (hw4.mono hb3.size)⟩
  · have hr1 : rs = rngText := by rw [HRS.out, reasonL, if_neg hk1]
    have r1 : str rs = ByteArray.mk #[118, 97, 108, 117, 101, 32, 111, 117, 116, 32, 111, 102, 32, 114, 97, 110, 103, 101] := by rw [hr1]; rfl
    rw [r1] at k6 z6
    have q1 : (k == 1) = false := by simpa using hk1
    clear hr1 r1 hk1
    go_enter Tryd.func7, Tryd.ntmps7
    go_wp2_with fail
    refine C1.out.mono ?_
    rintro e w1 ⟨v1, rfl, ho⟩
    obtain ⟨A, c, hv1, _, _, hR⟩ := ho.form
    rw [icells_length] at hv1 hR
    rw [hv1]
    have hb1 := ho.isBelow
    have HR := Lib.hid hR
    clear hv1 ho hR
    go_wp2_with fail
    refine (ET.out _ hb1).mono ?_
    rintro e w2 ⟨rfl, hw2⟩
    have hb2 : Below w.heap.size w w2 := hb1.trans (hw2.mono hb1.size)
    have hR2 : Reads w2 w2.heap.size 1 A (elemsOf s).length (icells (elemsOf s)) := (HR.out.below hw2).more hw2.size
    have C3 := Lib.hid (prints_any A c (elemsOf s) false w2 hR2 HV.out hel2 (HT.out.below hb2))
    have HR2 := Lib.hid hR2
    clear hR2
    go_wp2_with fail
    refine C3.out.mono ?_
    rintro e w3 ⟨v3, rfl, ho3⟩
    obtain ⟨A3, c3, hv3, _, _, hR3⟩ := ho3.form
    rw [tcells_length, List.length_map] at hv3 hR3
    rw [hv3]
    have hb3 : Below w.heap.size w w3 := hb2.trans (ho3.isBelow.mono hb2.size)
    have C4 := Lib.hid (quoted_any A A3 c c3 (elemsOf s) (stP false) 34 w3 ((HR2.out.below ho3.isBelow).more ho3.isBelow.size) hR3 HV2.out (by omega) (.inl rfl))
    rw [← HLq.out] at C4
    clear hv3 hR3 ho3
    go_wp2_with fail
    refine C4.out.mono ?_
    rintro e w4 ⟨rfl, hw4⟩
    go_wp2_with fail
    go_ret
    exact ⟨by simp, hb3.trans (hw4.mono hb3.size)⟩
end Go.Proofs.YtpboiodigfdajaaDoor.fnErrorText
