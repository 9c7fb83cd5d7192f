/-
  Contract: laws.capitals is a text with capital letters for small ones.
-/
import Derived.Test.YtjjocdhgjbhnhaaDoorRowAt
import Derived.Test.YtjjocdhgjbhnhaaDoorByteInfo
namespace Go.Proofs.YtjjocdhgjbhnhaaDoor
open Go.RowKit
set_option maxRecDepth 100000
set_option linter.unusedVariables false
def upC (c : UInt8) : UInt8 := if 97 ≤ c.toNat ∧ c.toNat ≤ 122 then UInt8.ofNat (c.toNat - 32) else c
theorem upC_low {c : UInt8} (h1 : 97 ≤ c.toNat) (h2 : c.toNat ≤ 122) : ((upC c).toNat : Int) = (c.toNat : Int) - 97 + 65 := by
  unfold upC; rw [if_pos ⟨h1, h2⟩, UInt8.toNat_ofNat', Nat.mod_eq_of_lt (by omega)]; omega
theorem upC_other {c : UInt8} (h : ¬ (97 ≤ c.toNat ∧ c.toNat ≤ 122)) : upC c = c := by unfold upC; rw [if_neg h]
def upTo (l : List UInt8) (i : Nat) : List UInt8 := (l.take i).map upC ++ l.drop i
theorem upTo_zero (l : List UInt8) : upTo l 0 = l := by simp [upTo]
theorem upTo_all {l : List UInt8} {i : Nat} (h : l.length ≤ i) : upTo l i = l.map upC := by simp [upTo, List.take_of_length_le h, List.drop_of_length_le h]
theorem upTo_length (l : List UInt8) (i : Nat) : (upTo l i).length = l.length := by simp [upTo]; omega
theorem upTo_at {l : List UInt8} {i : Nat} (h : i < l.length) : (upTo l i)[i]? = some l[i] := by
  rw [upTo, List.getElem?_append_right (by simp; omega)]
  simp [Nat.min_eq_left (Nat.le_of_lt h), h]
theorem upTo_step {l : List UInt8} {i : Nat} (h : i < l.length) : upTo l (i + 1) = (upTo l i).set i (upC l[i]) := by
  unfold upTo
  rw [List.set_append_right _ _ (by simp; omega), List.take_add_one, List.getElem?_eq_getElem h, List.map_append, List.append_assoc]
  congr 1
  rw [show i - (List.map upC (List.take i l)).length = 0 by simp; omega, List.drop_eq_getElem_cons h]
  rfl
set_option maxHeartbeats 1000000 in
theorem capitals_any (l : List UInt8) (w : World) (hl : l.length ≤ 140737488355328) : Calls Tryd.prog 19 #[.string (str l)] w fun e w' => e = .returned (.string (str (l.map upC))) ∧ Below w.heap.size w w' := by
  have hcv := Lib.run_convert_string_bytes (P := Tryd.prog) w 9 43 5 (str l) Tryd.underlying9 Tryd.underlying43 Tryd.underlying5
  have HR := Lib.hid (rowAt_conv w 5 l)
  have HB := Lib.hid (Lib.bytesWorld_below w 5 (str l))
  rw [size_str] at hcv
  obtain ⟨cp, hcp⟩ : ∃ cp, cp = grownCap w l.length 0 5 := ⟨_, rfl⟩
  obtain ⟨W, hW⟩ : ∃ W, W = Lib.bytesWorld w 5 (str l) := ⟨_, rfl⟩
  rw [← hcp, ← hW] at hcv
  rw [← hW] at HR HB
  clear hcp hW
  go_enter Tryd.func19, Tryd.ntmps19
  go_wp2
  clear hcv
  go_loopw [10] (fun vi wr => ∃ i : Nat, vi = .int .i64 i ∧ i ≤ l.length ∧ Hid (RowAt w.heap.size 5 (upTo l i) wr) ∧ Hid (Below w.heap.size w wr)) (fun vi _ => l.length - (intOf vi).toNat)
  case atStart => exact ⟨0, rfl, Nat.zero_le _, by rw [upTo_zero]; exact HR, HB⟩
  case round =>
    obtain ⟨i, rfl, hi, hR, hB⟩ := hrel
    by_cases hlt : i < l.length
    · obtain ⟨hc, hf⟩ := hR.out.at_ (upTo_at hlt)
      have hst := hR.out.set i (upC l[i])
      rw [← upTo_step hlt] at hst
      have hst0 : Hid (l[i] = upC l[i] → RowAt w.heap.size 5 (upTo l (i + 1)) wr) := fun h => by
        rw [upTo_step hlt, ← h]
        have : (upTo l i).set i l[i] = upTo l i := by
          have h2 := upTo_at hlt
          rw [List.getElem?_eq_some_iff] at h2
          obtain ⟨h3, h4⟩ := h2
          rw [← h4, List.set_getElem_self]
        rw [this]; exact hR.out
      have hlow := @upC_low l[i]
      have hoth := @upC_other l[i]
      have hbs := Lib.hid (hB.out.setCell (Nat.le_refl _) (p := ⟨w.heap.size, i, none⟩) (.int .u8 ((upC l[i]).toNat : Int)))
      obtain ⟨c, hcc⟩ : ∃ c, c = l[i] := ⟨_, rfl⟩
      rw [← hcc] at hc hst hst0 hlow hoth hbs
      clear hcc
      by_cases hup : 97 ≤ c.toNat ∧ c.toNat ≤ 122
      · rw [hlow hup.1 hup.2] at hst hbs
        obtain ⟨x, hx⟩ : ∃ x : Int, x = (c.toNat : Int) := ⟨_, rfl⟩
        rw [← hx] at hc hst hbs
        have a1 : 97 ≤ x := by omega
        have a2 : x ≤ 122 := by omega
        have HST := Lib.hid hst
        clear hlow hoth hst hx hup hst0
        go_wp2
        go_roundw
        case rel => exact ⟨i + 1, by go_num, by omega, HST.out, hbs.out⟩
        case measure => simp [intOf]; omega
      · have H0 := Lib.hid (hst0.out (hoth hup).symm)
        obtain ⟨x, hx⟩ : ∃ x : Int, x = (c.toNat : Int) := ⟨_, rfl⟩
        rw [← hx] at hc
        have a1 : ¬ (97 ≤ x ∧ x ≤ 122) := by omega
        clear hlow hoth hst hx hup hst0
        by_cases a2 : 97 ≤ x
        · have a3 : ¬ x ≤ 122 := by omega
          clear a1
          go_wp2
          go_roundw
          case rel => exact ⟨i + 1, by go_num, by omega, H0.out, hB⟩
          case measure => simp [intOf]; omega
        · clear a1
          go_wp2
          go_roundw
          case rel => exact ⟨i + 1, by go_num, by omega, H0.out, hB⟩
          case measure => simp [intOf]; omega
    · have hfin := hR.out.reads
      rw [upTo_all (by omega)] at hfin
      have hcv2 := run_convert_reads (P := Tryd.prog) wr 43 5 9 Tryd.underlying43 Tryd.underlying5 Tryd.underlying9 cp hfin
      rw [List.length_map] at hcv2
      obtain ⟨M, hM⟩ : ∃ M, M = l.map upC := ⟨_, rfl⟩
      rw [← hM] at hcv2
      have HM := Lib.hid hM
      clear hM hfin
      go_wp2
      go_ret
      exact ⟨by rw [← HM.out]; rfl, hB.out⟩
end Go.Proofs.YtjjocdhgjbhnhaaDoor
