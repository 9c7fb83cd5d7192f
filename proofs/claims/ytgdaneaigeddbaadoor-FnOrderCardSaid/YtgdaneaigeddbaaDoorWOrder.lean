/-
  The walk of laws.FnOrder: it returns true.
-/
import Derived.Test.YtgdaneaigeddbaaDoorNumRange
import Derived.Test.YtgdaneaigeddbaaDoorPlainOrder
import Derived.WalkLawsBesides
namespace Go.Proofs.YtgdaneaigeddbaaDoor.fnOrder
open Go.RowKit
set_option linter.unusedVariables false
set_option maxHeartbeats 1000000 in
theorem walk (w : World) (u : Int) (hu : (Lit.int .u64 u).wf = true) (v : Int) (hv : (Lit.int .u64 v).wf = true) (base : Int) (hbase : (Lit.int .i64 base).wf = true) (hL : laidMetH Tryd.prog Rows.fnOrderRow.laid w) :
    Calls Tryd.prog 5 #[.int .u64 u, .int .u64 v, .int .i64 base] w fun e w' => e = .returned (.bool true) ∧ Below w.heap.size w w' := by
  have hT : NumT w := ⟨pow10T_of hL (by kernel_rfl) (by simp [Rows.fnOrderRow]), bruT_of hL (by kernel_rfl) (by simp [Rows.fnOrderRow])⟩
  have hu := wf_u64 hu
  have hv := wf_u64 hv
  have hbase := wf_i64 hbase
  clear hL
  rcases base_cases base with h | h | ⟨b, rfl, h2, h36⟩
  · have g1 : decide (base < 2) = true := by simpa using h
    go_enter Tryd.func5, Tryd.ntmps5
    go_wp2_with fail
    go_ret
    exact ⟨rfl, Below.refl _ _⟩
  · have g1 : decide (base < 2) = false := by simp; omega
    have g2 : decide (36 < base) = true := by simpa using h
    go_enter Tryd.func5, Tryd.ntmps5
    go_wp2_with fail
    go_ret
    exact ⟨rfl, Below.refl _ _⟩
  · obtain ⟨u, rfl⟩ : ∃ n : Nat, u = n := ⟨u.toNat, by omega⟩
    obtain ⟨v, rfl⟩ : ∃ n : Nat, v = n := ⟨v.toNat, by omega⟩
    have g1 : decide ((b : Int) < 2) = false := by simp; omega
    have g2 : decide (36 < (b : Int)) = false := by simp; omega
    have C := Lib.hid (FormatUint_any u b w h2 h36 (by omega) hT)
    have D := Lib.hid (fun wx hb => FormatUint_any v b wx h2 h36 (by omega) (hT.below hb))
    have key := Lib.hid (digB_lt h2 h36 u v)
    have inj := Lib.hid (show digB b u = digB b v ↔ u = v from ⟨digB_inj h2 h36 u v, fun h => by rw [h]⟩)
    have hne := digB_ne (b := b) (u := u)
    have hne' := digB_ne (b := b) (u := v)
    have hl := digB_length_64 (b := b) (u := u) h2 (by omega)
    have hl' := digB_length_64 (b := b) (u := v) h2 (by omega)
    obtain ⟨L, hLL⟩ : ∃ L, L = digB b u := ⟨_, rfl⟩
    obtain ⟨M, hMM⟩ : ∃ M, M = digB b v := ⟨_, rfl⟩
    rw [← hLL] at C key inj hne hl
    rw [← hMM] at D key inj hne' hl'
    clear hLL hMM hT
    have e1 : (str L).toList = L := by rw [Lib.toList_data]; rfl
    have e2 : (str M).toList = M := by rw [Lib.toList_data]; rfl
    have e3 : (str L).size = L.length := size_str L
    have e4 : (str M).size = M.length := size_str M
    have n1 : (L == []) = false := by simpa using hne
    have n2 : (M == []) = false := by simpa using hne'
    have key' : (L.length < M.length ∧ u < v ∧ L ≠ M) ∨ (L.length = M.length ∧ Op.bytesLess L M = decide (u < v) ∧ (L = M ↔ u = v)) ∨ (M.length < L.length ∧ v ≤ u ∧ L ≠ M ∧ u ≠ v) := by
      have k := key.out
      have j := inj.out
      rcases Nat.lt_trichotomy L.length M.length with h | h | h
      · exact .inl ⟨h, k.2 (.inl h), fun e => by rw [e] at h; omega⟩
      · refine .inr (.inl ⟨h, ?_, j⟩)
        rw [Bool.eq_iff_iff, decide_eq_true_eq, k]
        constructor
        · intro h'; exact .inr ⟨h, h'⟩
        · rintro (h' | ⟨_, h'⟩)
          · omega
          · exact h'
      · have hn : L ≠ M := fun e => by rw [e] at h; omega
        refine .inr (.inr ⟨h, ?_, hn, fun e => hn (j.2 e)⟩)
        rcases Nat.lt_or_ge u v with h' | h'
        · rcases k.1 h' with h'' | ⟨h'', _⟩ <;> omega
        · exact h'
    clear key inj
    rcases key' with ⟨a1, a2, a3⟩ | ⟨a1, a2, a3⟩ | ⟨a1, a2, a3, a4⟩
    · have p1 : decide (L.length < M.length) = true := by simpa using a1
      have p2 : decide (u < v) = true := by simpa using a2
      have p3 : (L == M) = false := by simpa using a3
      have p4 : ((u : Int) == (v : Int)) = false := by simp; omega
      clear a3
      go_enter Tryd.func5, Tryd.ntmps5
      go_wp2_with (first
        | (go_at_call 10; refine C.out.mono ?_; rintro e w1 ⟨rfl, hw⟩; have D1 := Lib.hid (D.out w1 hw); clear C D)
        | (go_at_call 10; refine D1.out.mono ?_; rintro e w2 ⟨rfl, hw2⟩))
      go_ret
      exact ⟨rfl, hw.trans (hw2.mono hw.size)⟩
    · have p1 : decide (L.length < M.length) = false := by simp; omega
      have p2 : ((L.length : Int) == (M.length : Int)) = true := by simp; omega
      have p3 : (L == M) = decide (u = v) := by rw [Bool.eq_iff_iff, beq_iff_eq, decide_eq_true_eq]; exact a3
      have p4 : ((u : Int) == (v : Int)) = decide (u = v) := by rw [Bool.eq_iff_iff, beq_iff_eq, decide_eq_true_eq]; omega
      obtain ⟨q1, hq1⟩ : ∃ q, q = decide (u < v) := ⟨_, rfl⟩
      obtain ⟨q2, hq2⟩ : ∃ q, q = decide (u = v) := ⟨_, rfl⟩
      rw [← hq2] at p3 p4
      rw [← hq1] at a2
      replace hq1 := hq1.symm
      clear a1 a3 hq2
      cases q1 <;> cases q2
      all_goals
        go_enter Tryd.func5, Tryd.ntmps5
        go_wp2_with (first
          | (go_at_call 10; refine C.out.mono ?_; rintro e w1 ⟨rfl, hw⟩; have D1 := Lib.hid (D.out w1 hw); clear C D)
          | (go_at_call 10; refine D1.out.mono ?_; rintro e w2 ⟨rfl, hw2⟩))
        go_ret
        exact ⟨rfl, hw.trans (hw2.mono hw.size)⟩
    · have p1 : decide (L.length < M.length) = false := by simp; omega
      have p0 : ((L.length : Int) == (M.length : Int)) = false := by simp; omega
      have p2 : decide (u < v) = false := by simp; omega
      have p3 : (L == M) = false := by simpa using a3
      have p4 : ((u : Int) == (v : Int)) = false := by simp; omega
      clear a3 a4
      go_enter Tryd.func5, Tryd.ntmps5
      go_wp2_with (first
        | (go_at_call 10; refine C.out.mono ?_; rintro e w1 ⟨rfl, hw⟩; have D1 := Lib.hid (D.out w1 hw); clear C D)
        | (go_at_call 10; refine D1.out.mono ?_; rintro e w2 ⟨rfl, hw2⟩))
      go_ret
      exact ⟨rfl, hw.trans (hw2.mono hw.size)⟩
end Go.Proofs.YtgdaneaigeddbaaDoor.fnOrder
