/-
  Contracts: ParseUint and ParseInt, of the library and of the thin package, at a number of bits that is not asked: an error, with the text. Printed by wip/gen/bitsize.py.
-/
import Derived.Test.YtlnokggbejfocaaDoorParse
import Derived.Test.YtlnokggbejfocaaDoorItoa
import Derived.Test.YtlnokggbejfocaaDoorPlainAgree
import Derived.Deep.DeepCutAuto
import Derived.Deep.CutBlock
import Derived.BigGuardPart
import Derived.Outline
namespace Go.Proofs.YtlnokggbejfocaaDoor
open Go.RowKit
set_option maxRecDepth 100000
set_option linter.unusedVariables false
set_option linter.unusedSimpArgs false
set_option maxHeartbeats 8000000 in
theorem iParseUint_bits (l : List UInt8) (base bits : Int) (w : World) (hne : l ≠ []) (hb : base = 0 ∨ 2 ≤ base ∧ base ≤ 36) (hbits : bits < 0 ∨ 64 < bits) (hl : l.length ≤ 140737488355328) :
    Calls Tryd.prog 37 #[.string (str l), .int .i64 base, .int .i64 bits] w fun e w' => e = .returned (pUv 0 4) ∧ Below w.heap.size w w' := by
  obtain ⟨b0, hbz⟩ : ∃ b0 : Bool, b0 = (base == 0) := ⟨_, rfl⟩
  obtain ⟨bb, hbb⟩ : ∃ bb, bb = (pre l base.toNat).1 := ⟨_, rfl⟩
  obtain ⟨t, ht⟩ : ∃ t, t = (pre l base.toNat).2 := ⟨_, rfl⟩
  obtain ⟨n, hn⟩ : ∃ n, n = l.length := ⟨_, rfl⟩
  have hn1 : 1 ≤ n := by rw [hn]; exact List.length_pos_iff.2 hne
  have eL : (str l).size = n := by rw [size_str, hn]
  have hem : (str l).toList.isEmpty = false := by rw [Lib.toList_data]; simpa [str] using hne
  obtain ⟨bI, hbI⟩ : ∃ bI : Int, bI = bb := ⟨_, rfl⟩
  rw [← hn] at hl
  have hbz' : (base == 0) = b0 := hbz.symm
  have HBB := Lib.hid hbb
  have HT := Lib.hid ht
  have HN := Lib.hid hn
  have HBI := Lib.hid hbI
  have HBITS := Lib.hid hbits
  clear hbb ht hn hbI hbz hne hbits
  go_enter Tryd.func37, Tryd.ntmps37
  go_upto_block 0 with fail
  go_cut [0, 1] (fun v0 v1 wx => v0 = .string (str t) ∧ v1 = .int .i64 bI ∧ w = wx)
  case first =>
    by_cases h0 : base = 0
    · subst h0
      obtain ⟨c, hc⟩ : ∃ c, l[0]? = some c := ⟨l[0]'(by rw [← HN.out]; exact hn1), List.getElem?_eq_getElem (by rw [← HN.out]; exact hn1)⟩
      have hidx := idx_str0 (P := Tryd.prog) 9 Tryd.underlying9 hc
      obtain ⟨y, hy⟩ : ∃ y : Int, y = c.toNat := ⟨_, rfl⟩
      rw [← hy] at hidx
      clear hbz'
      by_cases h48 : c = 48
      · have y48 : (y == 48) = true := by rw [beq_iff_eq, hy]; exact (u8_int c 48 (by omega)).1 h48
        rw [h48] at hc
        have hsl1 := slice_str1 (P := Tryd.prog) 9 Tryd.underlying9 l (by rw [← HN.out]; exact hn1)
        have HC := Lib.hid hc
        clear hc h48 hy
        by_cases h3 : 3 ≤ n
        · obtain ⟨d, hd⟩ : ∃ d, l[1]? = some d := ⟨l[1]'(by rw [← HN.out]; omega), List.getElem?_eq_getElem (by rw [← HN.out]; omega)⟩
          have hidx1 := idx_str1 (P := Tryd.prog) 9 Tryd.underlying9 hd
          have hsl2 := slice_str2 (P := Tryd.prog) 9 Tryd.underlying9 l (by rw [← HN.out]; omega)
          have LC := Lib.hid (lower_any d w)
          obtain ⟨v, hv⟩ : ∃ v : Int, v = lowN d := ⟨_, rfl⟩
          rw [← hv] at LC
          have h3' : 3 ≤ l.length := by rw [← HN.out]; exact h3
          have hpre : pre l (0 : Int).toNat = if lowN d = 98 then (2, l.drop 2) else if lowN d = 111 then (8, l.drop 2) else if lowN d = 120 then (16, l.drop 2) else (8, l.drop 1) := by
            rw [pre, if_neg (by simp), if_neg (by rw [HC.out]; simp), hd]
            simp only [Option.map_some, Option.some.injEq, h3', true_and]
          by_cases v1 : v = 98
          · have H1 := Lib.hid (show pre l (0 : Int).toNat = (2, l.drop 2) by rw [hpre, if_pos (by omega)])
            have w1 : (v == 98) = true := by simpa using v1
            clear hpre hd hv v1 h3'
            go_wp2_with (go_at_call 48; refine LC.out.mono ?_; rintro e w1 ⟨rfl, rfl⟩)
            all_goals first | (exfalso; omega) | skip
            all_goals
              go_meet
              exact ⟨by rw [HT.out, H1.out], by rw [HBI.out, HBB.out, H1.out]; rfl, rfl⟩
          · have w1 : (v == 98) = false := by simpa using v1
            by_cases v2 : v = 111
            · have H1 := Lib.hid (show pre l (0 : Int).toNat = (8, l.drop 2) by rw [hpre, if_neg (by omega), if_pos (by omega)])
              have w2 : (v == 111) = true := by simpa using v2
              clear hpre hd hv v1 v2 h3'
              go_wp2_with (go_at_call 48; refine LC.out.mono ?_; rintro e w1 ⟨rfl, rfl⟩)
              all_goals first | (exfalso; omega) | skip
              all_goals
                go_meet
                exact ⟨by rw [HT.out, H1.out], by rw [HBI.out, HBB.out, H1.out]; rfl, rfl⟩
            · have w2 : (v == 111) = false := by simpa using v2
              by_cases v3 : v = 120
              · have H1 := Lib.hid (show pre l (0 : Int).toNat = (16, l.drop 2) by rw [hpre, if_neg (by omega), if_neg (by omega), if_pos (by omega)])
                have w3 : (v == 120) = true := by simpa using v3
                clear hpre hd hv v1 v2 v3 h3'
                go_wp2_with (go_at_call 48; refine LC.out.mono ?_; rintro e w1 ⟨rfl, rfl⟩)
                all_goals first | (exfalso; omega) | skip
                all_goals
                  go_meet
                  exact ⟨by rw [HT.out, H1.out], by rw [HBI.out, HBB.out, H1.out]; rfl, rfl⟩
              · have H1 := Lib.hid (show pre l (0 : Int).toNat = (8, l.drop 1) by rw [hpre, if_neg (by omega), if_neg (by omega), if_neg (by omega)])
                have w3 : (v == 120) = false := by simpa using v3
                clear hpre hd hv v1 v2 v3 h3'
                go_wp2_with (go_at_call 48; refine LC.out.mono ?_; rintro e w1 ⟨rfl, rfl⟩)
                all_goals first | (exfalso; omega) | skip
                all_goals
                  go_meet
                  exact ⟨by rw [HT.out, H1.out, List.drop_one], by rw [HBI.out, HBB.out, H1.out]; rfl, rfl⟩
        · have h3' : ¬ 3 ≤ l.length := by rw [← HN.out]; exact h3
          have H1 := Lib.hid (show pre l (0 : Int).toNat = (8, l.drop 1) by rw [pre, if_neg (by simp), if_neg (by rw [HC.out]; simp), if_neg (by omega), if_neg (by omega), if_neg (by omega)])
          clear h3'
          go_wp2_with fail
          all_goals first | (exfalso; omega) | skip
          all_goals
            go_meet
            exact ⟨by rw [HT.out, H1.out, List.drop_one], by rw [HBI.out, HBB.out, H1.out]; rfl, rfl⟩
      · have y48 : (y == 48) = false := by rw [beq_eq_false_iff_ne, hy]; exact fun h => h48 ((u8_int c 48 (by omega)).2 h)
        have H1 := Lib.hid (show pre l (0 : Int).toNat = (10, l) by rw [pre, if_neg (by simp), if_pos (by rw [hc]; simpa using h48)])
        clear hc h48 hy
        go_wp2_with fail
        all_goals first | (exfalso; omega) | skip
        all_goals
          go_meet
          exact ⟨by rw [HT.out, H1.out], by rw [HBI.out, HBB.out, H1.out]; rfl, rfl⟩
    · have q1 : 2 ≤ base := by omega
      have q2 : base ≤ 36 := by omega
      have H1 := Lib.hid (show pre l base.toNat = (base.toNat, l) by rw [pre, if_pos (by omega)])
      clear hbz'
      go_wp2_with fail
      all_goals first | (exfalso; omega) | skip
      all_goals
        go_meet
        exact ⟨by rw [HT.out, H1.out], by rw [HBI.out, HBB.out, H1.out]; congr 1; omega, rfl⟩
  case rest =>
    obtain ⟨rfl, rfl, rfl⟩ := hcut
    rcases HBITS.out with hneg | hbig
    · have q0 : (bits == 0) = false := by simp; omega
      go_wp2_with fail
      all_goals first | (exfalso; omega) | skip
      go_ret2
      exact ⟨rfl, Below.refl _ _⟩
    · have q0 : (bits == 0) = false := by simp; omega
      go_wp2_with fail
      all_goals first | (exfalso; omega) | skip
      go_ret2
      exact ⟨rfl, Below.refl _ _⟩
theorem neq_err_41 (w : World) : (binOp .neq 55 (.iface 77 (.int .i64 4)) (.iface 77 (.int .i64 1))).run Tryd.prog w = .ok (.bool true) w := by kernel_rfl
theorem eql_err_42 (w : World) : (binOp .eql 55 (.iface 77 (.int .i64 4)) (.iface 77 (.int .i64 2))).run Tryd.prog w = .ok (.bool false) w := by kernel_rfl
theorem eql_err_41 (w : World) : (binOp .eql 55 (.iface 77 (.int .i64 4)) (.iface 77 (.int .i64 1))).run Tryd.prog w = .ok (.bool false) w := by kernel_rfl
theorem eql_err_43 (w : World) : (binOp .eql 55 (.iface 77 (.int .i64 4)) (.iface 77 (.int .i64 3))).run Tryd.prog w = .ok (.bool false) w := by kernel_rfl
theorem eql_err_44 (w : World) : (binOp .eql 55 (.iface 77 (.int .i64 4)) (.iface 77 (.int .i64 4))).run Tryd.prog w = .ok (.bool true) w := by kernel_rfl
/-- the error's number: no number, or the size -/
def bitK (l : List UInt8) : Nat := if l = [] then 2 else 4
theorem iParseUint_bitk (l : List UInt8) (base bits : Int) (w : World) (hb : base = 0 ∨ 2 ≤ base ∧ base ≤ 36) (hbits : bits < 0 ∨ 64 < bits) (hl : l.length ≤ 140737488355328) :
    Calls Tryd.prog 37 #[.string (str l), .int .i64 base, .int .i64 bits] w fun e w' => e = .returned (pUv 0 (bitK l)) ∧ Below w.heap.size w w' := by
  by_cases h : l = []
  · subst h
    exact (iParseUint_nil base bits w).mono fun e w' ⟨h1, h2⟩ => ⟨h1, by rw [← h2]; exact Below.refl _ _⟩
  · have := iParseUint_bits l base bits w h hb hbits hl
    rw [bitK, if_neg h]; exact this
set_option maxHeartbeats 2000000 in
theorem iParseInt_bitk (l : List UInt8) (base bits : Int) (w : World) (hb : base = 0 ∨ 2 ≤ base ∧ base ≤ 36) (hbits : bits < 0 ∨ 64 < bits) (hl : l.length ≤ 140737488355328) :
    Calls Tryd.prog 34 #[.string (str l), .int .i64 base, .int .i64 bits] w fun e w' => e = .returned (pIv 0 (bitK (noSign l))) ∧ Below w.heap.size w w' := by
  by_cases h : l = []
  · subst h
    exact (iParseInt_nil base bits w).mono fun e w' ⟨h1, h2⟩ => ⟨h1, by rw [← h2]; exact Below.refl _ _⟩
  · have hml : (noSign l).length ≤ l.length := by rw [noSign]; split <;> simp
    have C := iParseUint_bitk (noSign l) base bits w hb hbits (by omega)
    obtain ⟨m, hm⟩ : ∃ m, m = noSign l := ⟨_, rfl⟩
    rw [← hm] at C ⊢
    obtain ⟨k, hk⟩ : ∃ k, k = bitK m := ⟨_, rfl⟩
    rw [← hk] at C ⊢
    have hk24 : k = 2 ∨ k = 4 := by rw [hk, bitK]; split <;> simp
    obtain ⟨n, hn⟩ : ∃ n, n = l.length := ⟨_, rfl⟩
    have hn1 : 1 ≤ n := by rw [hn]; exact List.length_pos_iff.2 h
    have eL : (str l).size = n := by rw [size_str, hn]
    have hem : (str l).toList.isEmpty = false := by rw [Lib.toList_data]; simpa [str] using h
    obtain ⟨c, hc⟩ : ∃ c, l[0]? = some c := ⟨l[0]'(by rw [← hn]; exact hn1), List.getElem?_eq_getElem (by rw [← hn]; exact hn1)⟩
    have hidx := idx_str0 (P := Tryd.prog) 9 Tryd.underlying9 hc
    have hsl1 := slice_str1 (P := Tryd.prog) 9 Tryd.underlying9 l (by rw [← hn]; exact hn1)
    obtain ⟨y, hy⟩ : ∃ y : Int, y = c.toNat := ⟨_, rfl⟩
    rw [← hy] at hidx
    have E21 := neq_err_21
    have E41 := neq_err_41
    by_cases c43 : c = 43
    · have hmd : m = l.drop 1 := by rw [hm, noSign, if_pos (.inr (by rw [hc, c43]))]
      rw [← hmd] at hsl1
      have q1 : (y == 43) = true := by rw [hy, c43]; rfl
      rcases hk24 with rfl | rfl
      all_goals
        have C := Lib.hid C
        clear hm hk hn hc hy hmd c43 h hml hl hb hbits
        unfold pUv errV at C
        go_enter Tryd.func34, Tryd.ntmps34
        go_wp2_with (go_at_call 37; refine C.out.mono ?_; rintro e w1 ⟨rfl, hw1⟩)
        go_ret2
        exact ⟨rfl, hw1⟩
    · by_cases c45 : c = 45
      · have hmd : m = l.drop 1 := by rw [hm, noSign, if_pos (.inl (by rw [hc, c45]))]
        rw [← hmd] at hsl1
        have q1 : (y == 43) = false := by rw [hy, c45]; rfl
        have q2 : (y == 45) = true := by rw [hy, c45]; rfl
        rcases hk24 with rfl | rfl
        all_goals
          have C := Lib.hid C
          clear hm hk hn hc hy hmd c43 c45 h hml hl hb hbits
          unfold pUv errV at C
          go_enter Tryd.func34, Tryd.ntmps34
          go_wp2_with (go_at_call 37; refine C.out.mono ?_; rintro e w1 ⟨rfl, hw1⟩)
          go_ret2
          exact ⟨rfl, hw1⟩
      · have hml' : m = l := by rw [hm]; exact noSign_of (by rw [hc]; simpa using c45) (by rw [hc]; simpa using c43)
        rw [hml'] at C
        have q1 : (y == 43) = false := by rw [beq_eq_false_iff_ne, hy]; exact fun h => c43 ((u8_int c 43 (by omega)).2 h)
        have q2 : (y == 45) = false := by rw [beq_eq_false_iff_ne, hy]; exact fun h => c45 ((u8_int c 45 (by omega)).2 h)
        rcases hk24 with rfl | rfl
        all_goals
          have C := Lib.hid C
          clear hml' hm hk hn hc hy c43 c45 h hml hl hb hbits
          unfold pUv errV at C
          go_enter Tryd.func34, Tryd.ntmps34
          go_wp2_with (go_at_call 37; refine C.out.mono ?_; rintro e w1 ⟨rfl, hw1⟩)
          go_ret2
          exact ⟨rfl, hw1⟩
theorem errorsNew_any (s : ByteArray) (w : World) : Calls Tryd.prog 55 #[.string s] w fun e w' => e = .returned (.iface 94 (.pointer (some ⟨w.heap.size, 0, none⟩))) ∧ w.alloc (.cells #[.string s] 96) = w' := by
  go_enter Tryd.func55, Tryd.ntmps55
  go_wp2
  go_ret
  exact ⟨rfl, rfl⟩
theorem push_two1 (wx : World) (o o2 : Obj) : ((wx.alloc o).alloc o2).heap[wx.heap.size + 1]? = some o2 := by
  show ((wx.heap.push o).push o2)[wx.heap.size + 1]? = some o2
  rw [Array.getElem?_push, if_pos (by simp)]
theorem push_two0 (wx : World) (o o2 : Obj) : ((wx.alloc o).alloc o2).heap[wx.heap.size]? = some o := by
  show ((wx.heap.push o).push o2)[wx.heap.size]? = some o
  rw [Array.getElem?_push, if_neg (by simp), Array.getElem?_push, if_pos rfl]
theorem bitSizeError_any (fn s : List UInt8) (bits : Int) (w : World) (h0 : -9223372036854775808 ≤ bits) (h1 : bits ≤ 9223372036854775807) (hl : s.length ≤ 140737488355328) (hT : Pow10T w) :
    Calls Tryd.prog 47 #[.string (str fn), .string (str s), .int .i64 bits] w fun e w' => ∃ N M, e = .returned (.pointer (some ⟨N, 0, none⟩)) ∧ w.heap.size ≤ N ∧ w.heap.size ≤ M ∧ w'.heap[N]? = some (.cells #[.string (str fn), .string (str s), .iface 94 (.pointer (some ⟨M, 0, none⟩))] 72 (0, 0)) ∧ (∃ c t, w'.heap[M]? = some (.cells c t (0, 0))) ∧ Below w.heap.size w w' := by
  have C := Lib.hid (Tryd.stringslite_Clone (str s) w (by rw [size_str]; omega))
  have I := Lib.hid (fun wx (hbx : Below w.heap.size w wx) => sItoa_any bits wx h0 h1 (hT.below hbx))
  have hlen := fmtI_length (b := 10) (i := bits) (by omega) h0 h1
  obtain ⟨D, hD⟩ : ∃ D, D = fmtI 10 bits := ⟨_, rfl⟩
  rw [← hD] at I hlen
  have hcat : (ByteArray.mk #[105, 110, 118, 97, 108, 105, 100, 32, 98, 105, 116, 32, 115, 105, 122, 101, 32]) ++ str D = str ([105, 110, 118, 97, 108, 105, 100, 32, 98, 105, 116, 32, 115, 105, 122, 101, 32] ++ D) := str_append [105, 110, 118, 97, 108, 105, 100, 32, 98, 105, 116, 32, 115, 105, 122, 101, 32] D
  have hsz : ¬ 9223372036854775807 < (str [105, 110, 118, 97, 108, 105, 100, 32, 98, 105, 116, 32, 115, 105, 122, 101, 32]).size + (str D).size := by rw [size_str, size_str]; simp; omega
  obtain ⟨X, hX⟩ : ∃ X, X = [105, 110, 118, 97, 108, 105, 100, 32, 98, 105, 116, 32, 115, 105, 122, 101, 32] ++ D := ⟨_, rfl⟩
  rw [← hX] at hcat
  clear hD hX hT hl
  go_enter Tryd.func47, Tryd.ntmps47
  go_wp2_with (first
    | (go_at_call 54; refine C.out.mono ?_; rintro e w1 ⟨rfl, hw1⟩)
    | (go_at_call 31; refine (I.out w1 hw1).mono ?_; rintro e w2 ⟨rfl, hw2⟩; have hb2 := hw1.trans (hw2.mono hw1.size))
    | (go_at_call 55; refine (errorsNew_any _ _).mono ?_; rintro e w3 ⟨rfl, rfl⟩))
  go_ret
  have hk : Below w.heap.size w (w2.alloc (.cells #[.string (str X)] 96)) := hb2.trans ((Below.refl _ _).alloc hb2.size _)
  refine ⟨_, w2.heap.size, rfl, ?_, hb2.size, ?_, ?_, hk.trans ((Below.refl _ _).alloc hk.size _)⟩
  · have := hb2.size; omega
  · exact push_two1 _ _ _
  · exact ⟨#[.string (str X)], 96, push_two0 _ _ _⟩
theorem toError_bits (fn s : List UInt8) (base bits : Int) (w : World) (h0 : -9223372036854775808 ≤ bits) (h1 : bits ≤ 9223372036854775807) (hl : s.length ≤ 140737488355328) (hT : Pow10T w) :
    Calls Tryd.prog 35 #[.string (str fn), .string (str s), .int .i64 base, .int .i64 bits, .iface 77 (.int .i64 4)] w fun e w' => ∃ N M, e = .returned (.iface 68 (.pointer (some ⟨N, 0, none⟩))) ∧ w.heap.size ≤ N ∧ w.heap.size ≤ M ∧ w'.heap[N]? = some (.cells #[.string (str fn), .string (str s), .iface 94 (.pointer (some ⟨M, 0, none⟩))] 72 (0, 0)) ∧ (∃ c t, w'.heap[M]? = some (.cells c t (0, 0))) ∧ Below w.heap.size w w' := by
  have C := Lib.hid (bitSizeError_any fn s bits w h0 h1 hl hT)
  have E1 := eql_err_42
  have E2 := eql_err_41
  have E3 := eql_err_43
  have E4 := eql_err_44
  clear hT hl
  go_enter Tryd.func35, Tryd.ntmps35
  go_wp2_with (go_at_call 47; refine C.out.mono ?_; rintro e w1 ⟨N, M, rfl, hN, hM, hNc, hMc, hw1⟩; have HC := Lib.hid (And.intro hNc hMc); clear hNc hMc)
  go_ret
  exact ⟨N, M, rfl, hN, hM, HC.out.1, HC.out.2, hw1⟩
/-- an error that is a NumError with a function and a text, and a reason that is none of the two sentinels or ErrSyntax -/
def NumE (w : World) (fn l : List UInt8) (ev : Value) : Prop := ∃ N val k, ev = .iface 68 (.pointer (some ⟨N, 0, none⟩)) ∧ (k : Int) ≠ 0 ∧ w.heap[N]? = some (.cells #[.string (str fn), .string (str l), val] 72 (0, 0)) ∧ ∀ wx, Below w.heap.size w wx → Calls Tryd.prog 36 #[val] wx fun e w' => e = .returned (.int .i64 k) ∧ wx = w'
theorem numE_toError (fn l : List UInt8) (base bits : Int) (c : Nat) (hc : c = 2 ∨ c = 4) (w : World) (h0 : -9223372036854775808 ≤ bits) (h1 : bits ≤ 9223372036854775807) (hl : l.length ≤ 140737488355328) (hT : Pow10T w) (aS aR : Addr) (hE : ErrT w aS aR) :
    Calls Tryd.prog 35 #[.string (str fn), .string (str l), .int .i64 base, .int .i64 bits, .iface 77 (.int .i64 (c : Int))] w fun e w' => ∃ ev, e = .returned ev ∧ NumE w' fn l ev ∧ Below w.heap.size w w' := by
  have hSb : aS.block < w.heap.size := by obtain ⟨c, t, h⟩ := hE.syn.blk; exact (Array.getElem?_eq_some_iff.1 h).1
  have hRb : aR.block < w.heap.size := by obtain ⟨c, t, h⟩ := hE.rng.blk; exact (Array.getElem?_eq_some_iff.1 h).1
  rcases hc with rfl | rfl
  · refine (Tryd.strconv_toError_syntax (str fn) (str l) base bits _ w (by rw [size_str]; omega) hE.syn.var (.inr ⟨_, _, rfl⟩)).mono fun e w' ⟨N, he, hNs, hN, hw⟩ => ?_
    exact ⟨_, he, ⟨N, _, 1, rfl, by decide, hN, fun wx hb => kind_syn wx aS aR (hE.below (hw.trans (hb.mono hw.size)))⟩, hw⟩
  · refine (toError_bits fn l base bits w h0 h1 hl hT).mono fun e w' ⟨N, M, he, hNs, hMs, hN, hM, hw⟩ => ?_
    refine ⟨_, he, ⟨N, _, 3, rfl, by decide, hN, fun wx hb => kind_other wx aS aR ⟨M, 0, none⟩ (hE.below (hw.trans (hb.mono hw.size))) ?_ ?_ ?_⟩, hw⟩
    · intro h; rw [← h] at hSb; simp only at hSb; omega
    · intro h; rw [← h] at hRb; simp only at hRb; omega
    · obtain ⟨c, t, hc⟩ := hM
      exact ⟨c, t, by rw [hb.block M ((Array.getElem?_eq_some_iff.1 hc).1)]; exact hc⟩
theorem failure_numE (w : World) (fn l : List UInt8) (ev : Value) (h : NumE w fn l ev) : Calls Tryd.prog 26 #[ev] w fun e w' => ∃ k : Int, k ≠ 0 ∧ e = .returned (failV k (str fn) (str l)) ∧ Below w.heap.size w w' := by
  obtain ⟨N, val, k, rfl, hk, hN, hkind⟩ := h
  exact (failure_num w N (str fn) (str l) val k hN hkind).mono fun e w' ⟨h1, h2⟩ => ⟨k, hk, h1, h2⟩
theorem NumE.form {w : World} {fn l : List UInt8} {ev : Value} (h : NumE w fn l ev) : ∃ N, ev = .iface 68 (.pointer (some ⟨N, 0, none⟩)) := by
  obtain ⟨N, _, _, h, _⟩ := h; exact ⟨N, h⟩
theorem bitK_cases (l : List UInt8) : bitK l = 2 ∨ bitK l = 4 := by rw [bitK]; split <;> simp
theorem sParseUint_bits (l : List UInt8) (base bits : Int) (w : World) (hb : base = 0 ∨ 2 ≤ base ∧ base ≤ 36) (hbits : bits < 0 ∨ 64 < bits) (h0 : -9223372036854775808 ≤ bits) (h1 : bits ≤ 9223372036854775807) (hl : l.length ≤ 140737488355328) (hT : Pow10T w) (aS aR : Addr) (hE : ErrT w aS aR) :
    Calls Tryd.prog 27 #[.string (str l), .int .i64 base, .int .i64 bits] w fun e w' => ∃ ev, e = .returned (.tuple #[.int .u64 0, ev]) ∧ NumE w' puText l ev ∧ Below w.heap.size w w' := by
  have C := iParseUint_bitk l base bits w hb hbits hl
  have T := fun wx (hbx : Below w.heap.size w wx) => numE_toError puText l base bits (bitK l) (bitK_cases _) wx h0 h1 hl (hT.below hbx) aS aR (hE.below hbx)
  obtain ⟨k, hk⟩ : ∃ k, k = bitK l := ⟨_, rfl⟩
  have hk24 := bitK_cases l
  rw [← hk] at C T hk24
  have C := Lib.hid (show Calls Tryd.prog 37 #[.string (str l), .int .i64 base, .int .i64 bits] w fun e w' => e = .returned (.tuple #[.int .u64 0, .iface 77 (.int .i64 (k : Int))]) ∧ Below w.heap.size w w' by
    rcases hk24 with rfl | rfl <;> exact C)
  have T := Lib.hid T
  obtain ⟨kI, hkI⟩ : ∃ kI : Int, kI = (k : Int) := ⟨_, rfl⟩
  rw [← hkI] at C T
  clear hE hT hk hk24 hkI hb hbits
  go_enter Tryd.func27, Tryd.ntmps27
  go_wp2_with (first
    | (go_at_call 37; refine C.out.mono ?_; rintro e w1 ⟨rfl, hw1⟩)
    | (go_at_call 35; refine (T.out w1 hw1).mono ?_; rintro e w2 ⟨ev, rfl, hev, hw2⟩; have HEV := Lib.hid hev; clear hev))
  go_ret2
  exact ⟨ev, rfl, HEV.out, hw1.trans (hw2.mono hw1.size)⟩
theorem ParseUint_bits (l : List UInt8) (base bits : Int) (w : World) (hb : base = 0 ∨ 2 ≤ base ∧ base ≤ 36) (hbits : bits < 0 ∨ 64 < bits) (h0 : -9223372036854775808 ≤ bits) (h1 : bits ≤ 9223372036854775807) (hl : l.length ≤ 140737488355328) (hT : Pow10T w) (aS aR : Addr) (hE : ErrT w aS aR) :
    Calls Tryd.prog 12 #[.string (str l), .int .i64 base, .int .i64 bits] w fun e w' => ∃ k : Int, k ≠ 0 ∧ e = .returned (.tuple #[.int .u64 0, failV k (str puText) (str l)]) ∧ Below w.heap.size w w' := by
  have C := Lib.hid fun wx (hbx : Below w.heap.size w wx) => sParseUint_bits l base bits wx hb hbits h0 h1 hl (hT.below hbx) aS aR (hE.below hbx)
  clear hE hT hb hbits
  go_enter Tryd.func12, Tryd.ntmps12
  go_wp2_with (first
    | (go_at_call 27; refine (C.out _ ((Below.refl _ _).alloc (Nat.le_refl _) _)).mono ?_; rintro e w1 ⟨ev, rfl, hev, hw1⟩; have DD := Lib.hid (failure_numE w1 _ _ ev hev); clear hev)
    | (go_at_call 26; refine DD.out.mono ?_; rintro e w2 ⟨k, hk, rfl, hw2⟩; have HKK := Lib.hid hk; clear hk; unfold failV; obtain ⟨hc, hf⟩ := bcell2 (show Below (w.alloc (.cells #[.int .i64 0, .string ⟨#[]⟩, .string ⟨#[]⟩] 24)).heap.size (w.alloc (.cells #[.int .i64 0, .string ⟨#[]⟩, .string ⟨#[]⟩] 24)) w2 from hw1.trans (hw2.mono hw1.size))))
  refine bodyPost_ret (v := .tuple #[.int .u64 0, failV k (str puText) (str l)]) (by simp [failV, str, results, Tryd.results12, go_sem, hc]) rfl ⟨k, HKK.out, rfl, ?_⟩
  exact (((((Below.refl _ _).alloc (Nat.le_refl _) _).trans ((hw1.trans (hw2.mono hw1.size)).mono (by simp))).setCell (Nat.le_refl _) _).setCell (Nat.le_refl _) _).setCell (Nat.le_refl _) _
theorem sParseInt_bits (l : List UInt8) (base bits : Int) (w : World) (hb : base = 0 ∨ 2 ≤ base ∧ base ≤ 36) (hbits : bits < 0 ∨ 64 < bits) (h0 : -9223372036854775808 ≤ bits) (h1 : bits ≤ 9223372036854775807) (hl : l.length ≤ 140737488355328) (hT : Pow10T w) (aS aR : Addr) (hE : ErrT w aS aR) :
    Calls Tryd.prog 25 #[.string (str l), .int .i64 base, .int .i64 bits] w fun e w' => ∃ ev, e = .returned (.tuple #[.int .i64 0, ev]) ∧ NumE w' piText l ev ∧ Below w.heap.size w w' := by
  have C := iParseInt_bitk l base bits w hb hbits hl
  have T := fun wx (hbx : Below w.heap.size w wx) => numE_toError piText l base bits (bitK (noSign l)) (bitK_cases _) wx h0 h1 hl (hT.below hbx) aS aR (hE.below hbx)
  obtain ⟨k, hk⟩ : ∃ k, k = bitK (noSign l) := ⟨_, rfl⟩
  have hk24 := bitK_cases (noSign l)
  rw [← hk] at C T hk24
  have C := Lib.hid (show Calls Tryd.prog 34 #[.string (str l), .int .i64 base, .int .i64 bits] w fun e w' => e = .returned (.tuple #[.int .i64 0, .iface 77 (.int .i64 (k : Int))]) ∧ Below w.heap.size w w' by
    rcases hk24 with rfl | rfl <;> exact C)
  have T := Lib.hid T
  obtain ⟨kI, hkI⟩ : ∃ kI : Int, kI = (k : Int) := ⟨_, rfl⟩
  rw [← hkI] at C T
  clear hE hT hk hk24 hkI hb hbits
  go_enter Tryd.func25, Tryd.ntmps25
  go_wp2_with (first
    | (go_at_call 34; refine C.out.mono ?_; rintro e w1 ⟨rfl, hw1⟩)
    | (go_at_call 35; refine (T.out w1 hw1).mono ?_; rintro e w2 ⟨ev, rfl, hev, hw2⟩; have HEV := Lib.hid hev; clear hev))
  go_ret2
  exact ⟨ev, rfl, HEV.out, hw1.trans (hw2.mono hw1.size)⟩
theorem ParseInt_bits (l : List UInt8) (base bits : Int) (w : World) (hb : base = 0 ∨ 2 ≤ base ∧ base ≤ 36) (hbits : bits < 0 ∨ 64 < bits) (h0 : -9223372036854775808 ≤ bits) (h1 : bits ≤ 9223372036854775807) (hl : l.length ≤ 140737488355328) (hT : Pow10T w) (aS aR : Addr) (hE : ErrT w aS aR) :
    Calls Tryd.prog 11 #[.string (str l), .int .i64 base, .int .i64 bits] w fun e w' => ∃ k : Int, k ≠ 0 ∧ e = .returned (.tuple #[.int .i64 0, failV k (str piText) (str l)]) ∧ Below w.heap.size w w' := by
  have C := Lib.hid fun wx (hbx : Below w.heap.size w wx) => sParseInt_bits l base bits wx hb hbits h0 h1 hl (hT.below hbx) aS aR (hE.below hbx)
  clear hE hT hb hbits
  go_enter Tryd.func11, Tryd.ntmps11
  go_wp2_with (first
    | (go_at_call 25; refine (C.out _ ((Below.refl _ _).alloc (Nat.le_refl _) _)).mono ?_; rintro e w1 ⟨ev, rfl, hev, hw1⟩; have DD := Lib.hid (failure_numE w1 _ _ ev hev); clear hev)
    | (go_at_call 26; refine DD.out.mono ?_; rintro e w2 ⟨k, hk, rfl, hw2⟩; have HKK := Lib.hid hk; clear hk; unfold failV; obtain ⟨hc, hf⟩ := bcell2 (show Below (w.alloc (.cells #[.int .i64 0, .string ⟨#[]⟩, .string ⟨#[]⟩] 24)).heap.size (w.alloc (.cells #[.int .i64 0, .string ⟨#[]⟩, .string ⟨#[]⟩] 24)) w2 from hw1.trans (hw2.mono hw1.size))))
  refine bodyPost_ret (v := .tuple #[.int .i64 0, failV k (str piText) (str l)]) (by simp [failV, str, results, Tryd.results11, go_sem, hc]) rfl ⟨k, HKK.out, rfl, ?_⟩
  exact (((((Below.refl _ _).alloc (Nat.le_refl _) _).trans ((hw1.trans (hw2.mono hw1.size)).mono (by simp))).setCell (Nat.le_refl _) _).setCell (Nat.le_refl _) _).setCell (Nat.le_refl _) _
end Go.Proofs.YtlnokggbejfocaaDoor
