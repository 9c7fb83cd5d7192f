/-
  The walk of laws.FnBitSize: it returns true.
-/
import Derived.Test.YtlnokggbejfocaaDoorBitSize
import Derived.Test.YtlnokggbejfocaaDoorSpecParseU
import Derived.Outline
namespace Go.Proofs.YtlnokggbejfocaaDoor.fnBitSize
open Go.RowKit
set_option maxRecDepth 100000
set_option linter.unusedVariables false
set_option linter.unusedSimpArgs false
theorem wf_i64' {x : Int} (h : (Lit.int .i64 x).wf = true) : -9223372036854775808 ≤ x ∧ x ≤ 9223372036854775807 := by simpa [Lit.wf, IntKind.min, IntKind.max, IntKind.signed, IntKind.bits] using h
set_option maxHeartbeats 4000000 in
theorem walk (w : World) (s : ByteArray) (hs : s.size ≤ 140737488351232) (base : Int) (hbase : (Lit.int .i64 base).wf = true) (bits : Int) (hbits : (Lit.int .i64 bits).wf = true) (hL : laidMetH Tryd.prog Rows.fnBitSizeRow.laid w) :
    Calls Tryd.prog 3 #[.string s, .int .i64 base, .int .i64 bits] w fun e w' => e = .returned (.bool true) ∧ Below w.heap.size w w' := by
  obtain ⟨aS, aR, hE⟩ := errT_of hL (by kernel_rfl) (by simp [Rows.fnBitSizeRow, Rows.laid_strconv_ErrSyntax, synText]) (by simp [Rows.fnBitSizeRow, Rows.laid_strconv_ErrRange, rngText])
  have hT : Pow10T w := pow10T_of hL (by kernel_rfl) (by simp [Rows.fnBitSizeRow])
  obtain ⟨l, rfl⟩ : ∃ l, s = str l := ⟨s.data.toList, (str_toList s).symm⟩
  rw [size_str] at hs
  have hbits := wf_i64' hbits
  have AK := Lib.hid (asked_any base 0 w)
  clear hL
  by_cases hin : 0 ≤ bits ∧ bits ≤ 64
  · obtain ⟨i1, i2⟩ := hin
    clear hE hT
    go_enter Tryd.func3, Tryd.ntmps3
    go_wp2_with (go_at_call 10; refine AK.out.mono ?_; rintro e w1 ⟨rfl, rfl⟩)
    all_goals first | (exfalso; omega) | skip
    go_ret
    exact ⟨rfl, Below.refl _ _⟩
  · have hout : bits < 0 ∨ 64 < bits := by omega
    cases hask : askedB base 0
    · rw [hask] at AK
      clear hE hT hask
      rcases hout with ho | ho
      all_goals
        go_enter Tryd.func3, Tryd.ntmps3
        go_wp2_with (go_at_call 10; refine AK.out.mono ?_; rintro e w1 ⟨rfl, rfl⟩)
        all_goals first | (exfalso; omega) | skip
        go_ret
        exact ⟨rfl, Below.refl _ _⟩
    · rw [hask] at AK
      obtain ⟨hb, _, _⟩ := askedB_iff.1 hask
      have P := Lib.hid (fun wx (hbx : Below w.heap.size w wx) => ParseInt_bits l base bits wx hb hout hbits.1 hbits.2 (by omega) (hT.below hbx) aS aR (hE.below hbx))
      have U := Lib.hid (fun wx (hbx : Below w.heap.size w wx) => ParseUint_bits l base bits wx hb hout hbits.1 hbits.2 (by omega) (hT.below hbx) aS aR (hE.below hbx))
      have e1 : (str l).toList = l := by rw [Lib.toList_data]; rfl
      clear hE hT hask hb hin
      rcases hout with ho | ho
      all_goals
        go_enter Tryd.func3, Tryd.ntmps3
        go_wp2_with (first
          | (go_at_call 10; refine AK.out.mono ?_; rintro e w1 ⟨rfl, rfl⟩)
          | (go_at_call 11; refine (P.out w (Below.refl _ _)).mono ?_; rintro e w2 ⟨k1, hk1, rfl, hw2⟩; unfold failV; have q1 : (k1 == 0) = false := by simpa using hk1))
        all_goals first | (exfalso; omega) | skip
        refine (U.out _ (hw2.trans ((Below.refl _ _).alloc hw2.size _))).mono ?_
        rintro e w3 ⟨k2, hk2, rfl, hw3⟩
        unfold failV
        have q2 : (k2 == 0) = false := by simpa using hk2
        obtain ⟨hc3, hf3⟩ := bcell2 hw3
        have hs3 : w2.heap.size < w3.heap.size := Nat.lt_of_lt_of_le (by simp) hw3.size
        have hb3 := (hw2.trans ((Below.refl _ _).alloc hw2.size _)).trans (hw3.mono (Nat.le_trans hw2.size (by simp)))
        go_wp2_with fail
        all_goals first | (exfalso; omega) | skip
        go_ret
        exact ⟨by simp, hb3.trans ((Below.refl _ _).alloc hb3.size _)⟩
end Go.Proofs.YtlnokggbejfocaaDoor.fnBitSize
