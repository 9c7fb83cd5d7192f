/-
  Contracts: strconv.appendQuotedWith at every buffer of the call's own, with room for the text or not. Printed by wip/gen/aq.py.
-/
import Derived.Test.YthbnglkpkgpojaaDoorQuotedWith
import Derived.Laws.CopyOwn
import Derived.Deep.WholeRow
import Derived.Deep.DeepCutAuto
import Derived.Deep.CutBlock
namespace Go.Proofs.YthbnglkpkgpojaaDoor
open Go.RowKit
set_option maxRecDepth 1000000
set_option linter.unusedVariables false
set_option linter.unusedSimpArgs false
theorem push_atQ (w : World) (o : Obj) : (w.alloc o).heap[w.heap.size]? = some o := by
  show (w.heap.push o)[w.heap.size]? = _
  simp
theorem buf_new_row (B : Nat) (W0 w : World) (l : List UInt8) (cap : Nat) (cur : Array Value) (hs : cur.size = cap) (ht : cur.toList.take l.length = bcells l) (hle : l.length ≤ cap) (hmax : cap ≤ maxLen) (hb : Below B W0 w) (hB : B ≤ w.heap.size) :
    Buf 5 B (.slice (some ⟨w.heap.size, 0, none⟩) l.length cap) l W0 (w.alloc (.cells cur 5)) :=
  ⟨⟨by rw [bcells_length]; omega, .inr ⟨w.heap.size, cap, cur, (0, 0), rfl, hB, push_atQ w _, by simp, hle, hmax, by omega, by rw [Nat.mul_one]; exact ht⟩⟩, hb.alloc hB _, by simp; omega⟩
set_option maxHeartbeats 8000000 in
/-- appendQuotedWith at every buffer of the call's own -/
theorem aqw_any (B : Nat) (v : Value) (l s : List UInt8) (asc gr : Bool) (W0 w : World) (hb : Buf 5 B v l W0 w) (hlen : l.length + 10 * s.length + 12 ≤ 140737488355328) (hB : B = W0.heap.size) (hT : PrintT W0) (hG : GraphicT W0) (hU : Utf8T W0) :
    Calls Tryd.prog 66 #[v, .string (str s), .int .u8 34, .bool asc, .bool gr] w fun e w' => ∃ v', e = .returned v' ∧ Buf 5 B v' (l ++ quoteL 34 (stQ asc gr) (elemsOf s)) W0 w' := by
  obtain ⟨i0, hi, hz0, hz1, hz2⟩ := info_parts byte_info
  obtain ⟨A, c, hvv, hlc, hcm, hrd⟩ := hb.form
  subst hvv
  have HQ := Lib.hid (show l ++ quoteL 34 (stQ asc gr) (elemsOf s) = l ++ [34] ++ flatQ asc gr (elemsOf s) ++ [34] by rw [quoteL_flat]; simp)
  obtain ⟨n, hn⟩ : ∃ n, n = l.length := ⟨_, rfl⟩
  obtain ⟨m, hm⟩ : ∃ m, m = s.length := ⟨_, rfl⟩
  have eS : (str s).size = m := by rw [size_str, hm]
  rw [← hn] at hlen hlc hrd ⊢
  rw [← hm] at hlen
  have hb0 := hb
  rw [← hn] at hb0
  have hwc : wrap64 ((c : Int) - (n : Int)) = (c : Int) - (n : Int) := by unfold wrap64; unfold maxLen at hcm; omega
  have HRD := Lib.hid hrd
  have hcap : c ≤ 9223372036854775807 := by unfold maxLen at hcm; omega
  have HN := Lib.hid hn
  have HM := Lib.hid hm
  have HB := Lib.hid hB
  have HT := Lib.hid hT
  have HG := Lib.hid hG
  have HU := Lib.hid hU
  have hll : l.length + 1 ≤ 140737488355328 := by omega
  have HB0 := Lib.hid hb0
  clear hn hm hB hT hG hU hb hrd hb0 hcm
  go_enter Tryd.func66, Tryd.ntmps66
  go_upto_if 21 with fail
  go_cut [0] (fun v0 wx => Hid (Buf 5 B v0 l W0 wx))
  case first =>
    by_cases hroom : (c : Int) - (n : Int) < (m : Int)
    · have hC : ((n : Int) + 1 + (m : Int) + 1).toNat = n + m + 2 := by omega
      have hmk := fun wx => run_make (P := Tryd.prog) wx 39 5 i0 (.int .u8 0) Tryd.underlying39 hi hz0 .i64 .i64 (n : Int) ((n : Int) + 1 + (m : Int) + 1) (by omega) (by omega) (by rw [hz2]; omega) (by omega)
      rw [hC, hz1, show ((n : Int)).toNat = n by omega, Nat.mul_one] at hmk
      by_cases hn0 : n = 0
      · subst hn0
        have hmk0 : ∀ wx, (Instr.makeSlice 39 (.int .i64 0) (.int .i64 (1 + (m : Int) + 1))).run Tryd.prog wx = .ok (.slice (some ⟨wx.heap.size, 0, none⟩) 0 (m + 2)) (wx.alloc (.cells (madeCells (Value.int .u8 0).cells (m + 2)) 5)) := fun wx => by
          have := hmk wx
          rwa [show (((0 : Nat) : Int) + 1 + (m : Int) + 1) = 1 + (m : Int) + 1 by omega, Nat.zero_add] at this
        have hl0 : l = [] := List.eq_nil_of_length_eq_zero HN.out.symm
        obtain ⟨cur, hcur⟩ : ∃ cur, cur = madeCells (Value.int .u8 0).cells (m + 2) := ⟨_, rfl⟩
        have hcs0 : cur.size = m + 2 := by rw [hcur]; exact size_madeCells _ _
        rw [← hcur] at hmk0
        have hmeet := Lib.hid (show Buf 5 B (.slice (some ⟨w.heap.size, 0, none⟩) 0 (m + 2)) l W0 (w.alloc (.cells cur 5)) by
          rw [hl0]
          exact buf_new_row B W0 w [] _ _ hcs0 (by simp [bcells]) (by simp) (by unfold maxLen; omega) HB0.out.isBelow HB0.out.base)
        have hcp := run_copy_none (P := Tryd.prog) (w.alloc (.cells cur 5)) 39 39 3 5 (some ⟨w.heap.size, 0, none⟩) A 0 (m + 2) 0 c Tryd.underlying39 (by rw [hi]; simp [hz1]) (by simp)
        clear hl0 hcur hmk
        go_wp2_with fail
        all_goals first | (exfalso; omega) | skip
        go_meet
        exact hmeet.out
      · obtain ⟨ad, hA, hblk, hcs⟩ := HRD.out.2 (by omega)
        subst hA
        have HCS := Lib.hid hcs
        have hbl : (bcells l).length = n := by rw [bcells_length, ← HN.out]
        obtain ⟨cur, hcur⟩ : ∃ cur, cur = madeCells (Value.int .u8 0).cells (n + m + 2) := ⟨_, rfl⟩
        have hcs0 : cur.size = n + m + 2 := by rw [hcur]; exact size_madeCells _ _
        rw [← hcur] at hmk
        obtain ⟨X, hX⟩ : ∃ X, X = (cur.toList.take 0 ++ bcells l ++ cur.toList.drop (0 + (bcells l).length)).toArray := ⟨_, rfl⟩
        have hmeet := Lib.hid (show Buf 5 B (.slice (some ⟨w.heap.size, 0, none⟩) n (n + m + 2)) l W0 (w.alloc (.cells X 5)) by
          have := buf_new_row B W0 w l (n + m + 2) X (by rw [hX]; simp [hbl, hcs0]; omega) (by rw [hX, ← HN.out, ← hbl]; simp) (by rw [← HN.out]; omega) (by unfold maxLen; omega) HB0.out.isBelow HB0.out.base
          rwa [← HN.out] at this)
        have hone : ∀ v ∈ bcells l, v.oneCell' = true := fun v hv => by obtain ⟨b, _, rfl⟩ := List.mem_map.1 hv; rfl
        have hsrc : ∀ j v, (bcells l)[j]? = some v → (w.alloc (.cells cur 5)).cell? (ad.add j) = some v := fun j v hjv => by
          rw [World.cell?_alloc_lt w _ _ (by rw [block_of_add]; exact hblk)]; exact HCS.out j v hjv
        have hcp := run_copy_row (P := Tryd.prog) (w.alloc (.cells cur 5)) 39 39 3 5 w.heap.size 0 n (n + m + 2) ad n c cur 5 (bcells l) Tryd.underlying39 (by rw [hi]; simp [hz1]) (push_atQ w _) (by rw [hbl]; exact (Nat.min_self n).symm) hsrc (by omega) hone
        rw [← hX, World.setRow_alloc_new] at hcp
        clear hcs hcur hn0 hX hsrc hone hbl
        go_wp2_with fail
        all_goals first | (exfalso; omega) | skip
        go_meet
        exact hmeet.out
    · go_wp2_with fail
      all_goals first | (exfalso; omega) | skip
      go_meet
      exact HB0.out
  case rest =>
    have hb0 := hcut.out
    clear HB0
    go_big_wp2_with (at_builtin; refine wpList_buf_byte rfl _ _ 39 rfl B 5 i0 Tryd.underlying39 hi hz0 hz1 hz2 _ l rfl W0 _ _ 34 rfl (by assumption) rfl hll ?_; intro v1 w1 hb1)
    have Hb0 := Lib.hid hb1
    clear hb0 hb1
    go_loopw [0, 1, 12, 13] (fun vb vs _ _ wr => ∃ rest acc : List UInt8, vs = .string (str rest) ∧ Hid (Buf 5 B vb (l ++ [34] ++ acc) W0 wr) ∧ Hid (acc ++ flatQ asc gr (elemsOf rest) = flatQ asc gr (elemsOf s)) ∧ acc.length + 10 * rest.length ≤ 10 * m) (fun _ vs _ _ _ => strLenQ vs)
    case atStart => exact ⟨s, [], rfl, by show Buf _ _ _ _ _ _; rw [List.append_nil]; exact Hb0.out, rfl, by have := HM.out; simp; omega⟩
    case round =>
      obtain ⟨rest, acc, rfl, hbr, hq, hl⟩ := hrel
      have hBel : Below W0.heap.size W0 wr := by have := hbr.out.isBelow; rwa [HB.out] at this
      obtain ⟨k, hk⟩ : ∃ k, k = rest.length := ⟨_, rfl⟩
      have eR : (str rest).size = k := by rw [size_str, hk]
      have hX : (l ++ [34] ++ acc).length = n + 1 + acc.length := by rw [HN.out]; simp; omega
      have HK := Lib.hid hk
      rw [← hk] at hl
      by_cases h0 : rest = []
      · have k0 : k = 0 := by rw [hk, h0]; rfl
        subst k0
        have hfin := hq.out
        rw [h0, elemsOf_nil, flatQ, List.flatMap_nil, List.append_nil] at hfin
        have HF := Lib.hid (show l ++ quoteL 34 (stQ asc gr) (elemsOf s) = (l ++ [34] ++ acc) ++ [34] by rw [HQ.out, ← hfin])
        obtain ⟨X, hXX⟩ : ∃ X, X = l ++ [34] ++ acc := ⟨_, rfl⟩
        rw [← hXX] at hbr HF hX
        have hbx := hbr.out
        have hxl : X.length + 1 ≤ 140737488355328 := by omega
        clear hfin hXX h0 hk
        go_big_wp2_with (at_builtin; refine wpList_buf_byte rfl _ _ 39 rfl B 5 i0 Tryd.underlying39 hi hz0 hz1 hz2 _ X rfl W0 _ _ 34 rfl (by assumption) rfl hxl ?_; intro v2 w2 hb2)
        go_ret
        exact ⟨_, rfl, by rw [HF.out]; exact hb2⟩
      · have k1 : 1 ≤ k := by rw [hk]; exact List.length_pos_iff.2 h0
        have cD0 := Tryd.utf8_DecodeRuneInString (str rest) wr (HU.out.below hBel)
        rw [decodeGo_str h0] at cD0
        obtain ⟨R, hR⟩ : ∃ R, R = (decL rest).1 := ⟨_, rfl⟩
        obtain ⟨K, hKK⟩ : ∃ K, K = (decL rest).2 := ⟨_, rfl⟩
        rw [← hR, ← hKK] at cD0
        have hRcp : isCP (R : Int) = true := by rw [hR]; exact decL_cp rest
        have hRb := isCP_bounds hRcp
        have hK1 : 1 ≤ K := by rw [hKK]; exact decL_pos rest
        have hK2 : K ≤ k := by rw [hKK, hk]; exact decL_le h0
        have hstep := flatQ_step asc gr h0
        have hsl := fun wx => slice_str_from (P := Tryd.prog) 9 Tryd.underlying9 .i64 rest K (by rw [← HK.out]; exact hK2) wx
        have cD := Lib.hid cD0
        have hdl : (rest.drop K).length = k - K := by rw [List.length_drop, ← HK.out]
        have hel0 := fun (b : Bool) (x : Int) => (elemL_length 34 b x).2
        by_cases hbad : K = 1 ∧ R = 65533
        · obtain ⟨kb, kb1⟩ := hbad
          obtain ⟨c0, hc0⟩ : ∃ c, rest[0]? = some c := ⟨rest[0]'(by rw [← HK.out]; exact k1), List.getElem?_eq_getElem (by rw [← HK.out]; exact k1)⟩
          have hst := decL_bad (l := rest) (by rw [← hR, ← hKK]; exact ⟨kb, kb1⟩)
          rw [getD_at hc0] at hst
          rw [hst] at hstep
          simp only at hstep
          rw [elem_bad asc gr c0.toNat c0.toNat_lt] at hstep
          have hidx := idx_str0 (P := Tryd.prog) 9 Tryd.underlying9 hc0
          have hsl1 := slice_str1 (P := Tryd.prog) 9 Tryd.underlying9 rest (by rw [← HK.out]; exact k1)
          obtain ⟨kk, hkk⟩ : ∃ kk, kk = c0.toNat := ⟨_, rfl⟩
          have hk256 : kk < 256 := by rw [hkk]; exact c0.toNat_lt
          rw [← hkk] at hidx hstep
          subst kb
          subst kb1
          have hX1 := Lib.hid (hexB_toNat (x := kk / 16) (by omega))
          have hX2 := Lib.hid (hexB_toNat (x := kk % 16) (by omega))
          have HQ2 := Lib.hid (show (acc ++ [92, 120, hexB (kk / 16), hexB (kk % 16)]) ++ flatQ asc gr (elemsOf (rest.drop 1)) = flatQ asc gr (elemsOf s) by rw [← hq.out, hstep, List.append_assoc])
          have hb := hbr.out
          unfold Buf at hb
          rw [hX] at hb
          have HX := Lib.hid hX
          have hlenA : n + 1 + acc.length + 10 ≤ 140737488355328 := by omega
          have hdl1 : (rest.drop 1).length = k - 1 := by rw [List.length_drop, ← HK.out]
          have HDL := Lib.hid hdl1
          have k16 : 0 ≤ (kk : Int) / 16 ∧ (kk : Int) / 16 < 16 := by omega
          have k17 : 0 ≤ (kk : Int) % 16 ∧ (kk : Int) % 16 < 16 := by omega
          clear hc0 hst hstep hkk hR hKK hRcp hRb hK1 hK2 hsl hdl h0 hk hel0 hX hdl1
          go_big_wp2_with (first
            | (go_at_call 73; refine cD.out.mono ?_; rintro e w1 ⟨rfl, hw1⟩; have hb := buf_belowQ hb hw1)
            | (at_builtin; first
              | (refine Lib.wpList_append_byte rfl _ _ 39 rfl B 5 i0 Tryd.underlying39 hi hz0 hz1 hz2 _ _ _ rfl W0 _ _ (by assumption) rfl (by first | omega | (simp only [Lib.size_two]; omega)) ?_; intro _ _ hb)
              | (refine Lib.wpList_append_text rfl _ _ 39 9 rfl B 5 i0 Tryd.underlying39 Tryd.underlying9 hi hz0 hz1 hz2 _ _ _ rfl W0 (by assumption) _ rfl (by first | omega | (simp only [Lib.size_two]; omega)) ?_; intro _ _ hb)))
          go_roundw
          case rel =>
            refine ⟨rest.drop 1, acc ++ [92, 120, hexB (kk / 16), hexB (kk % 16)], by rw [List.drop_one], ?_, HQ2.out, ?_⟩
            · show Lib.OwnBuf _ _ _ _ _ _ _
              rw [show ((l ++ [34] ++ (acc ++ [92, 120, hexB (kk / 16), hexB (kk % 16)]) : List UInt8)).length = n + 1 + acc.length + 2 + 1 + 1 by have := HX.out; simp at this ⊢; omega]
              simpa [bcells, Lib.strCells, Lib.size_two, Lib.lowerhex_at, hX1.out, hX2.out, List.append_assoc] using hb
            · rw [HDL.out]; simp; omega
          case measure =>
            show (str rest.tail).size < (str rest).size
            rw [size_str, eR, List.length_tail, ← HK.out]; omega
        · have hgood := decL_good (l := rest) (by rw [← hR, ← hKK]; exact hbad)
          rw [← hR, ← hKK] at hgood
          rw [hgood] at hstep
          simp only at hstep
          have hst : stQ asc gr (R : Int) = stayB asc gr (R : Int) := by simp [stQ]
          rw [hst] at hstep
          have hE10 := hel0 (stayB asc gr (R : Int)) (R : Int)
          obtain ⟨X, hXX⟩ : ∃ X, X = l ++ [34] ++ acc := ⟨_, rfl⟩
          rw [← hXX] at hbr hX
          have cE := Lib.hid (fun (w1 : World) (v : Value) (hb : Buf 5 B v X W0 w1) => appendEscapedRune_any B v X (R : Int) 34 asc gr W0 w1 hb (by omega) (HT.out.below (by have := hb.isBelow; rwa [HB.out] at this)) (HG.out.below (by have := hb.isBelow; rwa [HB.out] at this)) hRcp (.inl rfl))
          obtain ⟨E, hEE⟩ : ∃ E, E = elemL 34 (stayB asc gr (R : Int)) (R : Int) := ⟨_, rfl⟩
          rw [← hEE] at hstep hE10 cE
          have HQ2 := Lib.hid (show (acc ++ E) ++ flatQ asc gr (elemsOf (rest.drop K)) = flatQ asc gr (elemsOf s) by rw [← hq.out, hstep, List.append_assoc])
          have HXX := Lib.hid hXX
          have HDL := Lib.hid hdl
          have hbx := hbr.out
          obtain ⟨RI, hRI⟩ : ∃ RI : Int, RI = (R : Int) := ⟨_, rfl⟩
          obtain ⟨KI, hKI⟩ : ∃ KI : Int, KI = (K : Int) := ⟨_, rfl⟩
          rw [← hRI] at cD cE
          rw [← hKI] at cD hsl
          have r0 : 0 ≤ RI := by omega
          have r1 : RI ≤ 1114111 := by omega
          have kI0 : 1 ≤ KI := by omega
          have HKI := Lib.hid hKI
          by_cases hK1e : K = 1
          · have q1 : (KI == 1) = true := by simp; omega
            have q2 : (RI == 65533) = false := by simp; omega
            clear hR hKK hRcp hRb hK1 hK2 hdl h0 hk hel0 hX hstep hst hgood hXX hEE hRI hKI hbad hK1e
            go_big_wp2_with (first
              | (go_at_call 73; refine cD.out.mono ?_; rintro e w1 ⟨rfl, hw1⟩; have hb1 := hbx.below hw1)
              | (go_at_call 85; refine (cE.out _ _ hb1).mono ?_; rintro e w2 ⟨v2, rfl, hb2⟩))
            all_goals first | (exfalso; omega) | skip
            go_roundw
            case rel => exact ⟨rest.drop K, acc ++ E, rfl, by show Buf _ _ _ _ _ _; rw [show l ++ [34] ++ (acc ++ E) = X ++ E by rw [HXX.out]; simp]; exact hb2, HQ2.out, by rw [HDL.out]; have := HKI.out; simp; omega⟩
            case measure =>
              show (str (rest.drop K)).size < (str rest).size
              rw [size_str, eR, HDL.out]; have := HKI.out; omega
          · have q1 : (KI == 1) = false := by simp; omega
            clear hR hKK hRcp hRb hK1 hK2 hdl h0 hk hel0 hX hstep hst hgood hXX hEE hRI hKI hbad hK1e
            go_big_wp2_with (first
              | (go_at_call 73; refine cD.out.mono ?_; rintro e w1 ⟨rfl, hw1⟩; have hb1 := hbx.below hw1)
              | (go_at_call 85; refine (cE.out _ _ hb1).mono ?_; rintro e w2 ⟨v2, rfl, hb2⟩))
            all_goals first | (exfalso; omega) | skip
            go_roundw
            case rel => exact ⟨rest.drop K, acc ++ E, rfl, by show Buf _ _ _ _ _ _; rw [show l ++ [34] ++ (acc ++ E) = X ++ E by rw [HXX.out]; simp]; exact hb2, HQ2.out, by rw [HDL.out]; have := HKI.out; simp; omega⟩
            case measure =>
              show (str (rest.drop K)).size < (str rest).size
              rw [size_str, eR, HDL.out]; have := HKI.out; omega
end Go.Proofs.YthbnglkpkgpojaaDoor
