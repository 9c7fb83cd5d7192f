/-
  Contract: spec.IsASCII tells whether all bytes of a text are below 128.
-/
import Derived.Test.YthbnglkpkgpojaaDoorPlainAscii
import Derived.Test.YthbnglkpkgpojaaDoorRows
import Derived.Test.YthbnglkpkgpojaaDoorStrWords
import Derived.WalkKit
import Derived.WalkSpells
import Derived.Lib.Hide
import Derived.Outline
namespace Go.Proofs.YthbnglkpkgpojaaDoor
open Go.RowKit
set_option maxRecDepth 100000
set_option linter.unusedVariables false
set_option linter.unusedSimpArgs false
set_option maxHeartbeats 4000000 in
theorem isASCII_any (s : List UInt8) (hs : s.length ≤ 1000000000) (w : World) : Calls Tryd.prog 18 #[.string (str s)] w fun e w' => e = .returned (.bool (asciiL s)) ∧ w = w' := by
  obtain ⟨n, hn⟩ : ∃ n, n = s.length := ⟨_, rfl⟩
  have eS : (str s).size = n := by rw [size_str, hn]
  have HN := Lib.hid hn
  rw [← hn] at hs
  obtain ⟨b, hb⟩ : ∃ b, b = asciiL s := ⟨_, rfl⟩
  have HB := Lib.hid hb
  rw [← hb]
  clear hn hb
  go_enter Tryd.func18, Tryd.ntmps18
  go_wp2_with fail
  go_loop [3] (fun vi => ∃ i : Nat, vi = .int .i64 i ∧ i ≤ n ∧ Hid (∀ j c, j < i → s[j]? = some c → c.toNat < 128)) (fun vi => n - (intOf vi).toNat)
  case atStart => exact ⟨0, rfl, by omega, fun j c h => by omega⟩
  case round =>
    obtain ⟨i, rfl, hi, hA⟩ := hrel
    by_cases hlt : i < n
    · obtain ⟨c, hc⟩ : ∃ c, s[i]? = some c := ⟨s[i]'(by rw [← HN.out]; exact hlt), List.getElem?_eq_getElem (by rw [← HN.out]; exact hlt)⟩
      have hidx := fun wx => idx_str (P := Tryd.prog) 9 Tryd.underlying9 .i64 hc wx
      obtain ⟨y, hy⟩ : ∃ y : Int, y = (c.toNat : Int) := ⟨_, rfl⟩
      rw [← hy] at hidx
      have y0 : 0 ≤ y := by omega
      by_cases b1 : 128 ≤ y
      · have HF := Lib.hid (show b = false by
          rw [HB.out]
          cases e : asciiL s
          · rfl
          · unfold asciiL at e
            rw [List.all_eq_true] at e
            have := e c (List.mem_of_getElem? hc)
            simp at this; omega)
        clear hc hy
        go_wp2_with fail
        all_goals first | (exfalso; omega) | skip
        go_ret
        exact ⟨by rw [HF.out]; rfl, rfl⟩
      have HA := Lib.hid (show ∀ j c, j < i + 1 → s[j]? = some c → c.toNat < 128 from fun j c' hj hjc => by
        by_cases e : j < i
        · exact hA.out j c' e hjc
        · obtain rfl : j = i := by omega
          obtain rfl : c = c' := Option.some.inj (hc.symm.trans hjc)
          omega)
      clear hc hy
      go_wp2_with fail
      all_goals first | (exfalso; omega) | skip
      go_round
      case rel => exact ⟨i + 1, by go_num, by omega, HA.out⟩
      case measure => simp [intOf]; omega
    · have HT := Lib.hid (show b = true by
        rw [HB.out]
        unfold asciiL
        rw [List.all_eq_true]
        intro c hc
        obtain ⟨j, hj⟩ := List.getElem?_of_mem hc
        rw [decide_eq_true_eq]
        exact hA.out j c (by have := (List.getElem?_eq_some_iff.1 hj).1; have := HN.out; omega) hj)
      go_wp2_with fail
      all_goals first | (exfalso; omega) | skip
      go_ret
      exact ⟨by rw [HT.out]; rfl, rfl⟩
end Go.Proofs.YthbnglkpkgpojaaDoor
