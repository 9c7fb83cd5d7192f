/-
  Contract: spec.Digit is the value of a digit, and whether it is a capital letter.
-/
import Derived.Test.YtlnokggbejfocaaDoorRows
import Derived.Test.YtlnokggbejfocaaDoorPlainBases
import Derived.WalkKit
namespace Go.Proofs.YtlnokggbejfocaaDoor
set_option maxRecDepth 100000
open Go.RowKit
set_option linter.unusedVariables false
def capB (c : UInt8) : Bool := decide (65 ≤ c.toNat) && decide (c.toNat ≤ 90)
theorem digN_num {c : UInt8} (h1 : 48 ≤ c.toNat) (h2 : c.toNat ≤ 57) : digN c = c.toNat - 48 ∧ capB c = false := by
  unfold digN capB; rw [if_pos ⟨h1, h2⟩]; exact ⟨rfl, by simp; omega⟩
theorem digN_low {c : UInt8} (h1 : 97 ≤ c.toNat) (h2 : c.toNat ≤ 122) : digN c = c.toNat - 87 ∧ capB c = false := by
  unfold digN capB; rw [if_neg (by omega), if_pos ⟨h1, h2⟩]; exact ⟨rfl, by simp; omega⟩
theorem digN_cap {c : UInt8} (h1 : 65 ≤ c.toNat) (h2 : c.toNat ≤ 90) : digN c = c.toNat - 55 ∧ capB c = true := by
  unfold digN capB; rw [if_neg (by omega), if_neg (by omega), if_pos ⟨h1, h2⟩]; exact ⟨rfl, by simp; omega⟩
theorem digN_none {c : UInt8} (h1 : ¬ (48 ≤ c.toNat ∧ c.toNat ≤ 57)) (h2 : ¬ (97 ≤ c.toNat ∧ c.toNat ≤ 122)) (h3 : ¬ (65 ≤ c.toNat ∧ c.toNat ≤ 90)) : digN c = 99 ∧ capB c = false := by
  unfold digN capB; rw [if_neg h1, if_neg h2, if_neg h3]; exact ⟨rfl, by simp; omega⟩
theorem digit_any (c : UInt8) (w : World) : Calls Tryd.prog 14 #[.int .u8 (c.toNat : Int)] w fun e w' => e = .returned (.tuple #[.int .i64 (digN c : Int), .bool (capB c)]) ∧ w = w' := by
  have hc : c.toNat < 256 := c.toNat_lt
  have key : ∃ (z : Int) (b : Bool), z = digN c ∧ b = capB c := ⟨_, _, rfl, rfl⟩
  obtain ⟨z, b, hz, hb⟩ := key
  rw [← hz, ← hb]
  by_cases h1 : 48 ≤ c.toNat ∧ c.toNat ≤ 57
  · obtain ⟨e1, e2⟩ := digN_num h1.1 h1.2
    rw [e2] at hb
    subst hb
    have HZ : Hid (z = (c.toNat : Int) - 48) := by show z = _; rw [hz, e1]; omega
    obtain ⟨x, hx⟩ : ∃ x : Int, x = c.toNat := ⟨_, rfl⟩
    rw [← hx] at HZ ⊢
    have a1 : 48 ≤ x := by omega
    have a2 : x ≤ 57 := by omega
    clear hx h1 e1 e2 hc hz
    go_enter Tryd.func14, Tryd.ntmps14
    go_wp2
    go_ret2
    exact ⟨by rw [HZ.out]; rfl, rfl⟩
  · by_cases h2 : 97 ≤ c.toNat ∧ c.toNat ≤ 122
    · obtain ⟨e1, e2⟩ := digN_low h2.1 h2.2
      rw [e2] at hb
      subst hb
      have HZ : Hid (z = (c.toNat : Int) - 97 + 10) := by show z = _; rw [hz, e1]; omega
      obtain ⟨x, hx⟩ : ∃ x : Int, x = c.toNat := ⟨_, rfl⟩
      rw [← hx] at HZ ⊢
      have a1 : 97 ≤ x := by omega
      have a2 : x ≤ 122 := by omega
      clear hx h1 h2 e1 e2 hc hz
      go_enter Tryd.func14, Tryd.ntmps14
      go_wp2
      go_ret2
      exact ⟨by rw [HZ.out]; rfl, rfl⟩
    · by_cases h3 : 65 ≤ c.toNat ∧ c.toNat ≤ 90
      · obtain ⟨e1, e2⟩ := digN_cap h3.1 h3.2
        rw [e2] at hb
        subst hb
        have HZ : Hid (z = (c.toNat : Int) - 65 + 10) := by show z = _; rw [hz, e1]; omega
        obtain ⟨x, hx⟩ : ∃ x : Int, x = c.toNat := ⟨_, rfl⟩
        rw [← hx] at HZ ⊢
        have a1 : 65 ≤ x := by omega
        have a2 : x ≤ 90 := by omega
        clear hx h1 h2 h3 e1 e2 hc hz
        go_enter Tryd.func14, Tryd.ntmps14
        go_wp2
        go_ret2
        exact ⟨by rw [HZ.out]; rfl, rfl⟩
      · obtain ⟨e1, e2⟩ := digN_none h1 h2 h3
        rw [e2] at hb
        subst hb
        have hz : z = 99 := by rw [hz, e1]; rfl
        subst hz
        obtain ⟨x, hx⟩ : ∃ x : Int, x = c.toNat := ⟨_, rfl⟩
        have a1 : ¬ (48 ≤ x ∧ x ≤ 57) := by omega
        have a2 : ¬ (97 ≤ x ∧ x ≤ 122) := by omega
        have a3 : ¬ (65 ≤ x ∧ x ≤ 90) := by omega
        rw [← hx]
        clear hx h1 h2 h3 e1 e2 hc
        go_enter Tryd.func14, Tryd.ntmps14
        go_wp2
        all_goals first | (exfalso; omega) | skip
        all_goals
          go_ret2
          exact ⟨rfl, rfl⟩
end Go.Proofs.YtlnokggbejfocaaDoor
