/-
  Contracts: laws.inner is a text without its first and its last byte; spec.IsText tells whether a text is UTF-8.
-/
import Derived.Test.YtpboiodigfdajaaDoorElements
import Derived.Test.YtpboiodigfdajaaDoorPlainQLaws
import Derived.Outline
namespace Go.Proofs.YtpboiodigfdajaaDoor
open Go.RowKit
set_option maxRecDepth 100000
set_option linter.unusedVariables false
set_option linter.unusedSimpArgs false
theorem inner_any (l : List UInt8) (h2 : 2 ≤ l.length) (hl : l.length ≤ 140737488355328) (w : World) : Calls Tryd.prog 27 #[.string (str l)] w fun e w' => e = .returned (.string (str ((l.drop 1).take (l.length - 2)))) ∧ w = w' := by
  obtain ⟨n, hn⟩ : ∃ n, n = l.length := ⟨_, rfl⟩
  have eL : (str l).size = n := by rw [size_str, hn]
  have hsl := fun wx => slice_str (P := Tryd.prog) 9 Tryd.underlying9 .i64 .i64 l 1 (n - 1) (by omega) (by omega) wx
  rw [show n - 1 - 1 = l.length - 2 by omega, show ((1 : Nat) : Int) = 1 from rfl, show ((n - 1 : Nat) : Int) = (n : Int) - 1 by omega] at hsl
  have hext : (str l).extract 1 (n - 1) = str ((l.drop 1).take (l.length - 2)) := by rw [extract_str, show n - 1 - 1 = l.length - 2 by omega]
  obtain ⟨X, hX⟩ : ∃ X, X = (l.drop 1).take (l.length - 2) := ⟨_, rfl⟩
  rw [← hX] at hsl hext ⊢
  rw [← hn] at h2 hl
  have k1 : 1 ≤ n - 1 := by omega
  have k2 : 0 ≤ (n : Int) - 1 ∧ (n : Int) - 1 ≤ (n : Int) := by omega
  clear hX hn
  go_enter Tryd.func27, Tryd.ntmps27
  go_wp2_with fail
  all_goals first | (exfalso; omega) | skip
  go_ret
  exact ⟨rfl, rfl⟩
def textB (l : List UInt8) : Bool := (elemsOf l).all fun r => decide (0 ≤ r)
theorem textB_iff {l : List UInt8} : textB l = true ↔ ∀ r ∈ elemsOf l, 0 ≤ r := by simp [textB]
set_option maxHeartbeats 2000000 in
theorem isText_any (l : List UInt8) (w : World) (hl : l.length ≤ 10485760) : Calls Tryd.prog 28 #[.string (str l)] w fun e w' => e = .returned (.bool (textB l)) ∧ Below w.heap.size w w' := by
  have C := Lib.hid (elements_any l w hl)
  have hlen := elemsOf_length l
  have HT := Lib.hid (@textB_iff l)
  obtain ⟨es, hes⟩ : ∃ es, es = elemsOf l := ⟨_, rfl⟩
  rw [← hes] at C hlen HT
  obtain ⟨z, hz⟩ : ∃ z, z = textB l := ⟨_, rfl⟩
  rw [← hz] at HT ⊢
  obtain ⟨n, hn⟩ : ∃ n, n = es.length := ⟨_, rfl⟩
  have HN := Lib.hid hn
  rw [← hn] at hlen
  have hnb : n ≤ 10485760 := by omega
  clear hes hz hn hlen hl
  go_enter Tryd.func28, Tryd.ntmps28
  go_wp2_with fail
  refine C.out.mono ?_
  rintro e w1 ⟨v1, rfl, ho⟩
  obtain ⟨A, c, hv1, _, _, hR⟩ := ho.form
  rw [icells_length] at hv1 hR
  rw [← HN.out] at hv1
  rw [hv1]
  have hb1 := ho.isBelow
  have HR := Lib.hid hR
  clear hv1 ho hR C
  go_wp2_with fail
  go_loop [8] (fun vk => ∃ k : Nat, vk = .int .i64 k ∧ k ≤ n ∧ Hid (∀ j r, j < k → es[j]? = some r → 0 ≤ r)) (fun vk => n - (intOf vk).toNat)
  case atStart => exact ⟨0, rfl, by omega, fun j r h => by omega⟩
  case round =>
    obtain ⟨k, rfl, hk, hA⟩ := hrel
    by_cases hlt : k < n
    · obtain ⟨ad, u, hA', hbk, hu, hcell⟩ := HR.out.at_ (k := k) (by rw [← HN.out]; exact hlt)
      obtain ⟨r, hr⟩ : ∃ r, es[k]? = some r := ⟨es[k]'(by rw [← HN.out]; exact hlt), List.getElem?_eq_getElem (by rw [← HN.out]; exact hlt)⟩
      have hu' : u = .int .i32 r := by
        simp [icells, hr] at hu; exact hu.symm
      subst hu' hA'
      by_cases hneg : r < 0
      · have HZ := Lib.hid (show z = false by
          cases hz : z
          · rfl
          · have := (HT.out.1 hz) r (List.mem_of_getElem? hr); omega)
        clear hr hu
        go_wp2_with fail
        all_goals first | (exfalso; omega) | skip
        go_ret
        exact ⟨by rw [HZ.out]; rfl, hb1⟩
      · have HA := Lib.hid (show ∀ j x, j < k + 1 → es[j]? = some x → 0 ≤ x from fun j x hj hjx => by
          by_cases e : j < k
          · exact hA.out j x e hjx
          · obtain rfl : j = k := by omega
            obtain rfl : r = x := Option.some.inj (hr.symm.trans hjx)
            omega)
        clear hr hu
        go_wp2_with fail
        all_goals first | (exfalso; omega) | skip
        go_round
        case rel => exact ⟨k + 1, by go_num, by omega, HA.out⟩
        case measure => simp [intOf]; omega
    · have HZ := Lib.hid (show z = true from HT.out.2 fun r hr => by
        obtain ⟨j, hj⟩ := List.getElem?_of_mem hr
        exact hA.out j r (by have := (List.getElem?_eq_some_iff.1 hj).1; have := HN.out; omega) hj)
      go_wp2_with fail
      all_goals first | (exfalso; omega) | skip
      go_ret
      exact ⟨by rw [HZ.out]; rfl, hb1⟩
end Go.Proofs.YtpboiodigfdajaaDoor
