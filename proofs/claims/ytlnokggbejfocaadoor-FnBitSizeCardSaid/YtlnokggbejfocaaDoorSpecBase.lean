/-
  Contracts: spec.Signed and spec.Base.
-/
import Derived.Test.YtlnokggbejfocaaDoorPlainAgree
import Derived.Test.YtlnokggbejfocaaDoorRows
import Derived.Test.YtlnokggbejfocaaDoorStrWords
import Derived.WalkKit
import Derived.WalkSpells
import Derived.Lib.Hide
import Derived.Deep.QuietTactic
import Derived.BigQuiet
import Derived.BigGuardPart
import Derived.Outline
namespace Go.Proofs.YtlnokggbejfocaaDoor
open Go.RowKit
set_option maxRecDepth 100000
set_option linter.unusedVariables false
set_option linter.unusedSimpArgs false
theorem below_drewN2 (w : World) (n : Nat) : Below w.heap.size w (w.drewN n) := ⟨rfl, rfl, rfl, Nat.le_refl _, fun _ _ => rfl⟩
theorem u8_ne {c : UInt8} {n : Nat} (h : n < 256) (hc : c ≠ UInt8.ofNat n) : ((c.toNat : Int) == (n : Int)) = false := by
  rw [beq_eq_false_iff_ne]
  intro e
  apply hc
  rw [← UInt8.toNat_inj, UInt8.toNat_ofNat', Nat.mod_eq_of_lt h]; omega
def hasSign (l : List UInt8) : Bool := decide (l[0]? = some 45 ∨ l[0]? = some 43)
def isMinus (l : List UInt8) : Bool := decide (l[0]? = some 45)
set_option maxHeartbeats 1000000 in
theorem signed_any (l : List UInt8) (w : World) : Calls Tryd.prog 17 #[.string (str l)] w fun e w' => e = .returned (.tuple #[.string (str (noSign l)), .bool (hasSign l), .bool (isMinus l)]) ∧ Below w.heap.size w w' := by
  by_cases hl : l = []
  · subst hl
    have hem : (str []).toList.isEmpty = true := by rw [Lib.toList_data]; rfl
    have hem2 : (str []).toList = [] := by rw [Lib.toList_data]; rfl
    go_enter Tryd.func17, Tryd.ntmps17
    go_wp2_with fail
    go_ret3
    exact ⟨rfl, Below.refl _ _⟩
  · have hem : (str l).toList.isEmpty = false := by rw [Lib.toList_data]; simpa [str] using hl
    have hem2 : ¬ (str l).toList = [] := by rw [Lib.toList_data]; exact hl
    obtain ⟨n, hn⟩ : ∃ n, n = l.length := ⟨_, rfl⟩
    have hn1 : 1 ≤ n := by rw [hn]; exact List.length_pos_iff.2 hl
    have eL : (str l).size = n := by rw [size_str, hn]
    obtain ⟨c, hc⟩ : ∃ c, l[0]? = some c := ⟨l[0]'(by rw [← hn]; exact hn1), List.getElem?_eq_getElem (by rw [← hn]; exact hn1)⟩
    have hidx := idx_str0 (P := Tryd.prog) 9 Tryd.underlying9 hc
    have hsl := slice_str1 (P := Tryd.prog) 9 Tryd.underlying9 l (by rw [← hn]; exact hn1)
    obtain ⟨y, hy⟩ : ∃ y : Int, y = (c.toNat : Int) := ⟨_, rfl⟩
    rw [← hy] at hidx
    by_cases c43 : c = 43
    · have H1 := Lib.hid (show noSign l = l.drop 1 by rw [noSign, if_pos (.inr (by rw [hc, c43]))])
      have H2 := Lib.hid (show hasSign l = true by rw [hasSign, hc, c43]; rfl)
      have H3 := Lib.hid (show isMinus l = false by rw [isMinus, hc, c43]; rfl)
      have q1 : (y == 43) = true := by rw [hy, c43]; rfl
      have q2 : (y == 45) = false := by rw [hy, c43]; rfl
      clear hc hy c43 hl hn
      go_enter Tryd.func17, Tryd.ntmps17
      go_wp2_with fail
      go_quiet (fail)
      go_wp2_with fail
      go_ret3
      exact ⟨by rw [H1.out, H2.out, H3.out, List.drop_one]; rfl, below_drewN2 _ _⟩
    · have q1 : (y == 43) = false := by rw [hy]; exact u8_ne (n := 43) (by omega) c43
      by_cases c45 : c = 45
      · have H1 := Lib.hid (show noSign l = l.drop 1 by rw [noSign, if_pos (.inl (by rw [hc, c45]))])
        have H2 := Lib.hid (show hasSign l = true by rw [hasSign, hc, c45]; rfl)
        have H3 := Lib.hid (show isMinus l = true by rw [isMinus, hc, c45]; rfl)
        have q2 : (y == 45) = true := by rw [hy, c45]; rfl
        clear hc hy c43 c45 hl hn
        go_enter Tryd.func17, Tryd.ntmps17
        go_wp2_with fail
        go_quiet (fail)
        go_wp2_with fail
        go_ret3
        exact ⟨by rw [H1.out, H2.out, H3.out, List.drop_one]; rfl, below_drewN2 _ _⟩
      · have H1 := Lib.hid (show noSign l = l from noSign_of (by rw [hc]; simpa using c45) (by rw [hc]; simpa using c43))
        have H2 := Lib.hid (show hasSign l = false by rw [hasSign, hc]; simp [c43, c45])
        have H3 := Lib.hid (show isMinus l = false by rw [isMinus, hc]; simp [c45])
        have q2 : (y == 45) = false := by rw [hy]; exact u8_ne (n := 45) (by omega) c45
        clear hc hy c43 c45 hl hn
        go_enter Tryd.func17, Tryd.ntmps17
        go_wp2_with fail
        go_ret3
        exact ⟨by rw [H1.out, H2.out, H3.out]; rfl, Below.refl _ _⟩
def baseV (B : BaseR) : Value := .tuple #[.int .i64 B.b, .string (str B.t), .bool B.may, .bool B.before, .bool B.cap]
set_option maxHeartbeats 2000000 in
theorem base_any (l : List UInt8) (base : Int) (hb : 0 ≤ base) (w : World) : Calls Tryd.prog 38 #[.string (str l), .int .i64 base] w fun e w' => e = .returned (baseV (specBase l base.toNat)) ∧ Below w.heap.size w w' := by
  obtain ⟨R, hR⟩ : ∃ R, R = specBase l base.toNat := ⟨_, rfl⟩
  rw [← hR]
  obtain ⟨n, hn⟩ : ∃ n, n = l.length := ⟨_, rfl⟩
  have eL : (str l).size = n := by rw [size_str, hn]
  by_cases h0 : base = 0
  · subst h0
    by_cases h2 : n < 2
    · have HR := Lib.hid (show R = ⟨10, l, true, false, false⟩ by rw [hR, specBase, if_neg (by simp), if_pos (.inl (by rw [← hn]; exact h2))])
      clear hR hn
      go_enter Tryd.func38, Tryd.ntmps38
      go_wp2_with fail
      all_goals first | (exfalso; omega) | skip
      refine bodyPost_ret (v := baseV R) (by rw [HR.out]; simp [baseV, results, Tryd.results38, go_sem]) rfl ⟨rfl, Below.refl _ _⟩
    · have h2' : 2 ≤ n := by omega
      obtain ⟨c, hc⟩ : ∃ c, l[0]? = some c := ⟨l[0]'(by rw [← hn]; omega), List.getElem?_eq_getElem (by rw [← hn]; omega)⟩
      obtain ⟨d, hd⟩ : ∃ d, l[1]? = some d := ⟨l[1]'(by rw [← hn]; omega), List.getElem?_eq_getElem (by rw [← hn]; omega)⟩
      have hidx := idx_str0 (P := Tryd.prog) 9 Tryd.underlying9 hc
      have hidx1 := idx_str1 (P := Tryd.prog) 9 Tryd.underlying9 hd
      have hsl1 := slice_str1 (P := Tryd.prog) 9 Tryd.underlying9 l (by rw [← hn]; omega)
      have hsl2 := slice_str2 (P := Tryd.prog) 9 Tryd.underlying9 l (by rw [← hn]; omega)
      obtain ⟨y, hy⟩ : ∃ y : Int, y = (c.toNat : Int) := ⟨_, rfl⟩
      obtain ⟨z, hz⟩ : ∃ z : Int, z = (d.toNat : Int) := ⟨_, rfl⟩
      rw [← hy] at hidx
      rw [← hz] at hidx1
      by_cases c48 : c = 48
      · have q0 : (y != 48) = false := by rw [hy, c48]; rfl
        have hR1 : R = if d = 98 then ⟨2, l.drop 2, true, true, false⟩ else if d = 111 then ⟨8, l.drop 2, true, true, false⟩ else if d = 120 then ⟨16, l.drop 2, true, true, false⟩ else if d = 66 ∨ d = 79 ∨ d = 88 then ⟨16, l.drop 2, true, true, true⟩ else ⟨8, l.drop 1, true, true, false⟩ := by
          rw [hR, specBase, if_neg (by simp), if_neg (by rw [hc, c48, ← hn]; simp; omega), hd]
          simp only [Option.some.injEq]
        by_cases e98 : d = 98
        · have HR := Lib.hid (show R = ⟨2, l.drop 2, true, true, false⟩ by rw [hR1, if_pos e98])
          have q98 : (z == 98) = true := by rw [hz, e98]; rfl
          clear hR1 hR hn hc hd hy hz c48 e98
          go_enter Tryd.func38, Tryd.ntmps38
          go_wp2_with fail
          all_goals first | (exfalso; omega) | skip
          go_quiet (fail)
          go_wp2_with fail
          refine bodyPost_ret (v := baseV R) (by rw [HR.out]; simp [baseV, results, Tryd.results38, go_sem]) rfl ⟨rfl, below_drewN2 _ _⟩
        · have q98 : (z == 98) = false := by rw [hz]; exact u8_ne (n := 98) (by omega) e98
          by_cases e111 : d = 111
          · have HR := Lib.hid (show R = ⟨8, l.drop 2, true, true, false⟩ by rw [hR1, if_neg e98, if_pos e111])
            have q111 : (z == 111) = true := by rw [hz, e111]; rfl
            clear hR1 hR hn hc hd hy hz c48 e111
            go_enter Tryd.func38, Tryd.ntmps38
            go_wp2_with fail
            all_goals first | (exfalso; omega) | skip
            go_quiet (fail)
            go_wp2_with fail
            refine bodyPost_ret (v := baseV R) (by rw [HR.out]; simp [baseV, results, Tryd.results38, go_sem]) rfl ⟨rfl, below_drewN2 _ _⟩
          · have q111 : (z == 111) = false := by rw [hz]; exact u8_ne (n := 111) (by omega) e111
            by_cases e120 : d = 120
            · have HR := Lib.hid (show R = ⟨16, l.drop 2, true, true, false⟩ by rw [hR1, if_neg e98, if_neg e111, if_pos e120])
              have q120 : (z == 120) = true := by rw [hz, e120]; rfl
              clear hR1 hR hn hc hd hy hz c48 e120
              go_enter Tryd.func38, Tryd.ntmps38
              go_wp2_with fail
              all_goals first | (exfalso; omega) | skip
              go_quiet (fail)
              go_wp2_with fail
              refine bodyPost_ret (v := baseV R) (by rw [HR.out]; simp [baseV, results, Tryd.results38, go_sem]) rfl ⟨rfl, below_drewN2 _ _⟩
            · have q120 : (z == 120) = false := by rw [hz]; exact u8_ne (n := 120) (by omega) e120
              by_cases e66 : d = 66
              · have HR := Lib.hid (show R = ⟨16, l.drop 2, true, true, true⟩ by rw [hR1, if_neg e98, if_neg e111, if_neg e120, if_pos (.inl e66)])
                have q66 : (z == 66) = true := by rw [hz, e66]; rfl
                clear hR1 hR hn hc hd hy hz c48 e66 e98 e111 e120
                go_enter Tryd.func38, Tryd.ntmps38
                go_wp2_with fail
                all_goals first | (exfalso; omega) | skip
                go_quiet (fail)
                go_wp2_with fail
                refine bodyPost_ret (v := baseV R) (by rw [HR.out]; simp [baseV, results, Tryd.results38, go_sem]) rfl ⟨rfl, below_drewN2 _ _⟩
              · have q66 : (z == 66) = false := by rw [hz]; exact u8_ne (n := 66) (by omega) e66
                by_cases e79 : d = 79
                · have HR := Lib.hid (show R = ⟨16, l.drop 2, true, true, true⟩ by rw [hR1, if_neg e98, if_neg e111, if_neg e120, if_pos (.inr (.inl e79))])
                  have q79 : (z == 79) = true := by rw [hz, e79]; rfl
                  clear hR1 hR hn hc hd hy hz c48 e79 e98 e111 e120 e66
                  go_enter Tryd.func38, Tryd.ntmps38
                  go_wp2_with fail
                  all_goals first | (exfalso; omega) | skip
                  go_quiet (fail)
                  go_wp2_with fail
                  refine bodyPost_ret (v := baseV R) (by rw [HR.out]; simp [baseV, results, Tryd.results38, go_sem]) rfl ⟨rfl, below_drewN2 _ _⟩
                · have q79 : (z == 79) = false := by rw [hz]; exact u8_ne (n := 79) (by omega) e79
                  by_cases e88 : d = 88
                  · have HR := Lib.hid (show R = ⟨16, l.drop 2, true, true, true⟩ by rw [hR1, if_neg e98, if_neg e111, if_neg e120, if_pos (.inr (.inr e88))])
                    have q88 : (z == 88) = true := by rw [hz, e88]; rfl
                    clear hR1 hR hn hc hd hy hz c48 e88 e98 e111 e120 e66 e79
                    go_enter Tryd.func38, Tryd.ntmps38
                    go_wp2_with fail
                    all_goals first | (exfalso; omega) | skip
                    go_quiet (fail)
                    go_wp2_with fail
                    refine bodyPost_ret (v := baseV R) (by rw [HR.out]; simp [baseV, results, Tryd.results38, go_sem]) rfl ⟨rfl, below_drewN2 _ _⟩
                  · have q88 : (z == 88) = false := by rw [hz]; exact u8_ne (n := 88) (by omega) e88
                    have HR := Lib.hid (show R = ⟨8, l.drop 1, true, true, false⟩ by rw [hR1, if_neg e98, if_neg e111, if_neg e120, if_neg (by rintro (h | h | h); exact e66 h; exact e79 h; exact e88 h)])
                    clear hR1 hR hn hc hd hy hz c48 e98 e111 e120 e66 e79 e88
                    go_enter Tryd.func38, Tryd.ntmps38
                    go_wp2_with fail
                    all_goals first | (exfalso; omega) | skip
                    go_quiet (fail)
                    go_wp2_with fail
                    refine bodyPost_ret (v := baseV R) (by rw [HR.out]; simp [baseV, results, Tryd.results38, go_sem]) rfl ⟨rfl, below_drewN2 _ _⟩
      · have q0 : (y != 48) = true := by rw [bne_iff_ne, hy]; intro e; exact c48 (by rw [← UInt8.toNat_inj]; show c.toNat = 48; omega)
        have HR := Lib.hid (show R = ⟨10, l, true, false, false⟩ by rw [hR, specBase, if_neg (by simp), if_pos (.inr (by rw [hc]; simpa using c48))])
        clear hR hn hc hd hy hz c48
        go_enter Tryd.func38, Tryd.ntmps38
        go_wp2_with fail
        all_goals first | (exfalso; omega) | skip
        refine bodyPost_ret (v := baseV R) (by rw [HR.out]; simp [baseV, results, Tryd.results38, go_sem]) rfl ⟨rfl, Below.refl _ _⟩
  · have q : (base != 0) = true := by simpa using h0
    have HR := Lib.hid (show R = ⟨base.toNat, l, false, false, false⟩ by rw [hR, specBase, if_pos (by omega)])
    have hbt : ((base.toNat : Nat) : Int) = base := by omega
    have HBT := Lib.hid hbt
    clear hR hn hbt
    go_enter Tryd.func38, Tryd.ntmps38
    go_wp2_with fail
    all_goals first | (exfalso; omega) | skip
    refine bodyPost_ret (v := baseV R) (by rw [HR.out]; simp only [baseV, HBT.out]; simp [results, Tryd.results38, go_sem]) rfl ⟨rfl, Below.refl _ _⟩
end Go.Proofs.YtlnokggbejfocaaDoor
