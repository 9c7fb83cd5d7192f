/-
  Contract: laws.under is digits with an underscore before those that are marked.
-/
import Derived.Test.YtjjocdhgjbhnhaaDoorPlainMarks
import Derived.Test.YtjjocdhgjbhnhaaDoorByteInfo
import Derived.Test.YtjjocdhgjbhnhaaDoorRowWords
import Derived.Test.YtjjocdhgjbhnhaaDoorStrWords
import Derived.Test.YtjjocdhgjbhnhaaDoorSpecPlain
import Derived.WalkKit
import Derived.BigGuardPart
import Derived.Outline
namespace Go.Proofs.YtjjocdhgjbhnhaaDoor
open Go.RowKit
set_option maxRecDepth 100000
set_option linter.unusedVariables false
set_option linter.unusedSimpArgs false
theorem under_step {l marks : List UInt8} {i : Nat} {c : UInt8} (h : l[i]? = some c) : underL marks (l.take (i + 1)) 0 = underL marks (l.take i) 0 ++ if 0 < i ∧ markB marks i = true then [95, c] else [c] := by
  have hi : i < l.length := (List.getElem?_eq_some_iff.1 h).1
  rw [take_snoc' h, underL_snoc, List.length_take, Nat.min_eq_left (by omega), Nat.zero_add, underL]
  split <;> rfl
set_option maxHeartbeats 4000000 in
theorem under_any (l marks : List UInt8) (A : Option Addr) (cp0 : Nat) (w : World) (hr : Reads w w.heap.size 1 A marks.length (bcells marks)) (hm : marks.length ≤ 140737488351232) (hl : l.length ≤ 1000) :
    Calls Tryd.prog 24 #[.string (str l), .slice A marks.length cp0] w fun e w' => e = .returned (.string (str (underL marks l 0))) ∧ Below w.heap.size w w' := by
  obtain ⟨i0, hi, hz0, hz1, hz2⟩ := info_parts byte_info
  have HS := Lib.hid (own_start w 5)
  have HR := Lib.hid hr
  obtain ⟨k, hk⟩ : ∃ k, k = l.length := ⟨_, rfl⟩
  have eL : (str l).size = k := by rw [size_str, hk]
  have HK := Lib.hid hk
  rw [← hk] at hl
  obtain ⟨q, hq⟩ : ∃ q, q = marks.length := ⟨_, rfl⟩
  have HQ := Lib.hid hq
  rw [← hq] at hm ⊢
  clear hk hq hr
  go_enter Tryd.func24, Tryd.ntmps24
  go_wp2
  go_loopw [5, 6] (fun vo vi wr => ∃ i : Nat, vi = .int .i64 i ∧ i ≤ k ∧ Hid (Own 5 w.heap.size vo (bcells (underL marks (l.take i) 0)) w wr)) (fun _ vi _ => k - (intOf vi).toNat)
  case atStart => exact ⟨0, rfl, by omega, HS.out⟩
  case round =>
    obtain ⟨i, rfl, hik, ho⟩ := hrel
    by_cases hlt : i < k
    · obtain ⟨c, hc⟩ : ∃ c, l[i]? = some c := ⟨l[i]'(by rw [← HK.out]; exact hlt), List.getElem?_eq_getElem (by rw [← HK.out]; exact hlt)⟩
      have hidx := fun wx => idx_str (P := Tryd.prog) 9 Tryd.underlying9 .i64 hc wx
      have hst := under_step (marks := marks) hc
      have hxl : (bcells (underL marks (l.take i) 0)).length ≤ 2000 := by
        have h1 := underL_length marks (l.take i) 0
        have h2 : (l.take i).length ≤ l.length := by simp; omega
        rw [bcells_length]; have := HK.out; omega
      obtain ⟨X, hX⟩ : ∃ X, X = bcells (underL marks (l.take i) 0) := ⟨_, rfl⟩
      rw [← hX] at ho hxl
      obtain ⟨y, hy⟩ : ∃ y : Int, y = (c.toNat : Int) := ⟨_, rfl⟩
      rw [← hy] at hidx
      have ho' := ho.out
      obtain ⟨A1, cp, hv, _, _, _⟩ := ho.out.form
      by_cases h0 : 0 < i
      · by_cases hiq : i < q
        · obtain ⟨ad, u, rfl, hblk, hu, hcell⟩ := HR.out.at_ (k := i) (by rw [← HQ.out]; exact hiq)
          have hcell2 : wr.cell? (ad.add i) = some u := by rw [ho.out.isBelow.cell (p := ad.add i) (by rw [block_of_add]; exact hblk)]; exact hcell
          obtain ⟨mk, hmk, rfl⟩ : ∃ mk, marks[i]? = some mk ∧ u = .int .u8 (mk.toNat : Int) := by
            rw [bcells, List.getElem?_map, Option.map_eq_some_iff] at hu
            obtain ⟨a, h1, h2⟩ := hu
            exact ⟨a, h1, h2.symm⟩
          obtain ⟨z, hz⟩ : ∃ z : Int, z = (mk.toNat : Int) := ⟨_, rfl⟩
          rw [← hz] at hcell2
          have z0 : 0 ≤ z := by omega
          have hmb : markB marks i = decide (mk.toNat % 2 = 1) := by rw [markB, hmk]
          by_cases hodd : z % 2 = 1
          · rw [hmb, if_pos ⟨h0, by simp; omega⟩] at hst
            have HO := Lib.hid (show bcells (underL marks (l.take (i + 1)) 0) = X ++ [.int .u8 95] ++ [.int .u8 y] by rw [hst, hX, bcells_append, hy, List.append_assoc]; rfl)
            clear hX hst hc hy hmb hz hmk hu hcell hv
            go_wp2_with (at_builtin; skip; refine wpList_own_push rfl _ _ 43 rfl w.heap.size 5 i0 _ 1 Tryd.underlying43 hi hz0 hz1 hz2 ?_ _ X rfl w _ _ ?_ ?_ ?_ ?_ ?_ ?_)
            all_goals first | (exfalso; omega) | skip
            all_goals first | exact ho' | rfl | omega | skip
            intro v2 w2 ho2
            have hxl2 : (X ++ [Value.int .u8 95]).length ≤ 2001 := by simp; omega
            obtain ⟨X2, hX2⟩ : ∃ X2, X2 = X ++ [Value.int .u8 95] := ⟨_, rfl⟩
            rw [← hX2] at HO hxl2 ho2
            clear hX2 ho'
            go_wp2_with (at_builtin; skip; refine wpList_own_push rfl _ _ 43 rfl w.heap.size 5 i0 _ 1 Tryd.underlying43 hi hz0 hz1 hz2 ?_ _ X2 rfl w _ _ ?_ ?_ ?_ ?_ ?_ ?_)
            all_goals first | (exfalso; omega) | skip
            all_goals first | exact ho2 | rfl | omega | skip
            intro v3 w3 ho3
            go_wp2
            go_roundw
            case rel => exact ⟨i + 1, by go_num, by omega, by rw [HO.out]; exact ho3⟩
            case measure => simp [intOf]; omega
          · rw [hmb, if_neg (by rintro ⟨_, h⟩; simp at h; omega)] at hst
            have HO := Lib.hid (show bcells (underL marks (l.take (i + 1)) 0) = X ++ [.int .u8 y] by rw [hst, hX, bcells_append, hy]; rfl)
            clear hX hst hc hy hmb hz hmk hu hcell hv
            go_wp2_with (at_builtin; skip; refine wpList_own_push rfl _ _ 43 rfl w.heap.size 5 i0 _ 1 Tryd.underlying43 hi hz0 hz1 hz2 ?_ _ X rfl w _ _ ?_ ?_ ?_ ?_ ?_ ?_)
            all_goals first | (exfalso; omega) | skip
            all_goals first | exact ho' | rfl | omega | skip
            intro v2 w2 ho2
            go_wp2
            go_roundw
            case rel => exact ⟨i + 1, by go_num, by omega, by rw [HO.out]; exact ho2⟩
            case measure => simp [intOf]; omega
        · have hmb : markB marks i = false := by rw [markB, List.getElem?_eq_none (by rw [← HQ.out]; omega)]
          rw [hmb, if_neg (by simp)] at hst
          have HO := Lib.hid (show bcells (underL marks (l.take (i + 1)) 0) = X ++ [.int .u8 y] by rw [hst, hX, bcells_append, hy]; rfl)
          clear hX hst hc hy hmb hv
          go_wp2_with (at_builtin; skip; refine wpList_own_push rfl _ _ 43 rfl w.heap.size 5 i0 _ 1 Tryd.underlying43 hi hz0 hz1 hz2 ?_ _ X rfl w _ _ ?_ ?_ ?_ ?_ ?_ ?_)
          all_goals first | (exfalso; omega) | skip
          all_goals first | exact ho' | rfl | omega | skip
          intro v2 w2 ho2
          go_wp2
          go_roundw
          case rel => exact ⟨i + 1, by go_num, by omega, by rw [HO.out]; exact ho2⟩
          case measure => simp [intOf]; omega
      · rw [if_neg (by omega)] at hst
        have HO := Lib.hid (show bcells (underL marks (l.take (i + 1)) 0) = X ++ [.int .u8 y] by rw [hst, hX, bcells_append, hy]; rfl)
        clear hX hst hc hy hv
        go_wp2_with (at_builtin; skip; refine wpList_own_push rfl _ _ 43 rfl w.heap.size 5 i0 _ 1 Tryd.underlying43 hi hz0 hz1 hz2 ?_ _ X rfl w _ _ ?_ ?_ ?_ ?_ ?_ ?_)
        all_goals first | (exfalso; omega) | skip
        all_goals first | exact ho' | rfl | omega | skip
        intro v2 w2 ho2
        go_wp2
        go_roundw
        case rel => exact ⟨i + 1, by go_num, by omega, by rw [HO.out]; exact ho2⟩
        case measure => simp [intOf]; omega
    · obtain rfl : i = k := by omega
      have hall : l.take i = l := List.take_of_length_le (by rw [← HK.out]; exact Nat.le_refl _)
      rw [hall] at ho
      obtain ⟨A1, cp, hv, _, _, hrd⟩ := ho.out.form
      rw [bcells_length] at hv hrd
      have hcv := run_convert_reads (P := Tryd.prog) wr 43 5 9 Tryd.underlying43 Tryd.underlying5 Tryd.underlying9 cp hrd
      have hbel := Lib.hid ho.out.isBelow
      obtain ⟨M, hM⟩ : ∃ M, M = underL marks l 0 := ⟨_, rfl⟩
      rw [← hM] at hcv hv
      obtain ⟨ml, hml⟩ : ∃ ml, ml = M.length := ⟨_, rfl⟩
      rw [← hml] at hcv hv
      have HM := Lib.hid hM
      subst hv
      clear hall hrd hM hml ho
      go_wp2_with fail
      all_goals first | (exfalso; omega) | skip
      go_ret
      exact ⟨by rw [← HM.out]; rfl, hbel.out⟩
end Go.Proofs.YtjjocdhgjbhnhaaDoor
