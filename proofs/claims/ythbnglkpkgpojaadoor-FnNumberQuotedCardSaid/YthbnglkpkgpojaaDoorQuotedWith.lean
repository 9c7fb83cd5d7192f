/-
  Contracts: strconv.appendQuotedWith (with room for the text) and quoteWith with all flags, at every text. (After the shelf's own proof of the case that strconv.Quote calls.) Printed by wip/gen/qw.py.
-/
import Derived.Test.YthbnglkpkgpojaaDoorEsc
import Derived.Test.YthbnglkpkgpojaaDoorRowWords
import Derived.Test.YthbnglkpkgpojaaDoorStrWords
import Derived.Test.YthbnglkpkgpojaaDoorUtf8
import Derived.Test.YthbnglkpkgpojaaDoorQuoteRune
import Derived.OwnWalk
import Derived.Laws.DeepStrings4
import Derived.Outline
namespace Go.Proofs.YthbnglkpkgpojaaDoor
open Go.RowKit
set_option maxRecDepth 1000000
set_option linter.unusedVariables false
set_option linter.unusedSimpArgs false
/-- which elements stay: those that stand in UTF-8, as stayB has it -/
def stQ (asc gr : Bool) (r : Int) : Bool := decide (0 ≤ r) && stayB asc gr r
theorem stQ_P (asc : Bool) : stQ asc false = stP asc := by
  funext r
  by_cases h : 0 ≤ r
  · rw [stQ, stP_stay asc r h]; simp [h, stP]
  · simp [stQ, stP, h]
theorem stQ_G : stQ false true = stG := by
  funext r
  by_cases h : 0 ≤ r
  · rw [stQ, stG_stay r h]; simp [h, stG]
  · simp [stQ, stG, h]
/-- what stands between the quotes -/
def flatQ (asc gr : Bool) (es : List Int) : List UInt8 := es.flatMap fun r => elemL 34 (stQ asc gr r) r
theorem quoteL_flat (asc gr : Bool) (es : List Int) : quoteL 34 (stQ asc gr) es = 34 :: (flatQ asc gr es ++ [34]) := rfl
theorem flatQ_step (asc gr : Bool) {l : List UInt8} (h : l ≠ []) : flatQ asc gr (elemsOf l) = elemL 34 (stQ asc gr (stepL l).1) (stepL l).1 ++ flatQ asc gr (elemsOf (l.drop (stepL l).2)) := by
  rw [elemsOf_cons l h, flatQ, List.flatMap_cons]; rfl
theorem elem_bad (asc gr : Bool) (k : Nat) (hk : k < 256) : elemL 34 (stQ asc gr (-1 - (k : Int))) (-1 - (k : Int)) = [92, 120, hexB (k / 16), hexB (k % 16)] := by
  have h0 : stQ asc gr (-1 - (k : Int)) = false := by simp [stQ]; omega
  rw [h0, elemL, if_neg (by omega), if_neg (by simp)]
  unfold escL
  rw [if_neg (by omega), if_neg (by omega), if_neg (by omega), if_neg (by omega), if_neg (by omega), if_neg (by omega), if_neg (by omega), if_pos (by omega), show (-1 - (-1 - (k : Int))).toNat = k by omega]
  simp only [hexL, Nat.pow_zero, Nat.div_one, Nat.pow_one]
  rw [show k / 16 % 16 = k / 16 by omega]
theorem buf_belowQ {B : Nat} {e : TypeId} {v : Value} {n : Nat} {xs : List Value} {W0 w w' : World} (h : Lib.OwnBuf B e v n xs W0 w) (hb : Below w.heap.size w w') : Lib.OwnBuf B e v n xs W0 w' :=
  ⟨h.1.kept (row := none) ⟨hb.os, hb.tape, hb.output, hb.size, fun k hk _ => hb.block k hk⟩ (by cases hv : v.ownBlock <;> simp), h.2.1.trans ⟨hb.os, hb.tape, hb.output, hb.size, fun k hk => hb.block k (Nat.lt_of_lt_of_le hk h.2.2)⟩, Nat.le_trans h.2.2 hb.size⟩
def strLenQ (v : Value) : Nat := match v with | .string x => x.size | _ => 0
set_option maxHeartbeats 8000000 in
/-- the loop of appendQuotedWith, from a buffer with room on -/
theorem aqw_room (B : Nat) (A : Option Addr) (c : Nat) (l s : List UInt8) (asc gr : Bool) (W0 w : World) (hb : Buf 5 B (.slice A l.length c) l W0 w) (hroom : l.length + s.length ≤ c) (hcap : c ≤ 9223372036854775807) (hlen : l.length + 10 * s.length + 12 ≤ 140737488355328) (hB : B = W0.heap.size) (hT : PrintT W0) (hG : GraphicT W0) (hU : Utf8T W0) :
    Calls Tryd.prog 66 #[.slice A l.length c, .string (str s), .int .u8 34, .bool asc, .bool gr] w fun e w' => ∃ v', e = .returned v' ∧ Buf 5 B v' (l ++ quoteL 34 (stQ asc gr) (elemsOf s)) W0 w' := by
  obtain ⟨i0, hi, hz0, hz1, hz2⟩ := info_parts byte_info
  have HQ := Lib.hid (show l ++ quoteL 34 (stQ asc gr) (elemsOf s) = l ++ [34] ++ flatQ asc gr (elemsOf s) ++ [34] by rw [quoteL_flat]; simp)
  obtain ⟨n, hn⟩ : ∃ n, n = l.length := ⟨_, rfl⟩
  obtain ⟨m, hm⟩ : ∃ m, m = s.length := ⟨_, rfl⟩
  have eS : (str s).size = m := by rw [size_str, hm]
  rw [← hn] at hroom hlen ⊢
  rw [← hm] at hroom hlen
  have hb0 := hb
  rw [← hn] at hb0
  have hwc : wrap64 ((c : Int) - (n : Int)) = (c : Int) - (n : Int) := by unfold wrap64; omega
  have hroom' : ¬ ((c : Int) - (n : Int) < (m : Int)) := by omega
  have HN := Lib.hid hn
  have HM := Lib.hid hm
  have HB := Lib.hid hB
  have HT := Lib.hid hT
  have HG := Lib.hid hG
  have HU := Lib.hid hU
  have hll : l.length + 1 ≤ 140737488355328 := by omega
  clear hn hm hB hT hG hU hb
  go_enter Tryd.func66, Tryd.ntmps66
  go_big_wp2_with (at_builtin; refine wpList_buf_byte rfl _ _ 39 rfl B 5 i0 Tryd.underlying39 hi hz0 hz1 hz2 _ l rfl W0 _ _ 34 rfl (by assumption) rfl hll ?_; intro v1 w1 hb1)
  have Hb0 := Lib.hid hb1
  clear hb0 hb1
  go_loopw [0, 1, 12, 13] (fun vb vs _ _ wr => ∃ rest acc : List UInt8, vs = .string (str rest) ∧ Hid (Buf 5 B vb (l ++ [34] ++ acc) W0 wr) ∧ Hid (acc ++ flatQ asc gr (elemsOf rest) = flatQ asc gr (elemsOf s)) ∧ acc.length + 10 * rest.length ≤ 10 * m) (fun _ vs _ _ _ => strLenQ vs)
  case atStart => exact ⟨s, [], rfl, by show Buf _ _ _ _ _ _; rw [List.append_nil]; exact Hb0.out, rfl, by have := HM.out; simp; omega⟩
  case round =>
    obtain ⟨rest, acc, rfl, hbr, hq, hl⟩ := hrel
    have hBel : Below W0.heap.size W0 wr := by have := hbr.out.isBelow; rwa [HB.out] at this
    obtain ⟨k, hk⟩ : ∃ k, k = rest.length := ⟨_, rfl⟩
    have eR : (str rest).size = k := by rw [size_str, hk]
    have hX : (l ++ [34] ++ acc).length = n + 1 + acc.length := by rw [HN.out]; simp; omega
    have HK := Lib.hid hk
    rw [← hk] at hl
    by_cases h0 : rest = []
    · have k0 : k = 0 := by rw [hk, h0]; rfl
      subst k0
      have hfin := hq.out
      rw [h0, elemsOf_nil, flatQ, List.flatMap_nil, List.append_nil] at hfin
      have HF := Lib.hid (show l ++ quoteL 34 (stQ asc gr) (elemsOf s) = (l ++ [34] ++ acc) ++ [34] by rw [HQ.out, ← hfin])
      obtain ⟨X, hXX⟩ : ∃ X, X = l ++ [34] ++ acc := ⟨_, rfl⟩
      rw [← hXX] at hbr HF hX
      have hbx := hbr.out
      have hxl : X.length + 1 ≤ 140737488355328 := by omega
      clear hfin hXX h0 hk
      go_big_wp2_with (at_builtin; refine wpList_buf_byte rfl _ _ 39 rfl B 5 i0 Tryd.underlying39 hi hz0 hz1 hz2 _ X rfl W0 _ _ 34 rfl (by assumption) rfl hxl ?_; intro v2 w2 hb2)
      go_ret
      exact ⟨_, rfl, by rw [HF.out]; exact hb2⟩
    · have k1 : 1 ≤ k := by rw [hk]; exact List.length_pos_iff.2 h0
      have cD0 := Tryd.utf8_DecodeRuneInString (str rest) wr (HU.out.below hBel)
      rw [decodeGo_str h0] at cD0
      obtain ⟨R, hR⟩ : ∃ R, R = (decL rest).1 := ⟨_, rfl⟩
      obtain ⟨K, hKK⟩ : ∃ K, K = (decL rest).2 := ⟨_, rfl⟩
      rw [← hR, ← hKK] at cD0
      have hRcp : isCP (R : Int) = true := by rw [hR]; exact decL_cp rest
      have hRb := isCP_bounds hRcp
      have hK1 : 1 ≤ K := by rw [hKK]; exact decL_pos rest
      have hK2 : K ≤ k := by rw [hKK, hk]; exact decL_le h0
      have hstep := flatQ_step asc gr h0
      have hsl := fun wx => slice_str_from (P := Tryd.prog) 9 Tryd.underlying9 .i64 rest K (by rw [← HK.out]; exact hK2) wx
      have cD := Lib.hid cD0
      have hdl : (rest.drop K).length = k - K := by rw [List.length_drop, ← HK.out]
      have hel0 := fun (b : Bool) (x : Int) => (elemL_length 34 b x).2
      by_cases hbad : K = 1 ∧ R = 65533
      · obtain ⟨kb, kb1⟩ := hbad
        obtain ⟨c0, hc0⟩ : ∃ c, rest[0]? = some c := ⟨rest[0]'(by rw [← HK.out]; exact k1), List.getElem?_eq_getElem (by rw [← HK.out]; exact k1)⟩
        have hst := decL_bad (l := rest) (by rw [← hR, ← hKK]; exact ⟨kb, kb1⟩)
        rw [getD_at hc0] at hst
        rw [hst] at hstep
        simp only at hstep
        rw [elem_bad asc gr c0.toNat c0.toNat_lt] at hstep
        have hidx := idx_str0 (P := Tryd.prog) 9 Tryd.underlying9 hc0
        have hsl1 := slice_str1 (P := Tryd.prog) 9 Tryd.underlying9 rest (by rw [← HK.out]; exact k1)
        obtain ⟨kk, hkk⟩ : ∃ kk, kk = c0.toNat := ⟨_, rfl⟩
        have hk256 : kk < 256 := by rw [hkk]; exact c0.toNat_lt
        rw [← hkk] at hidx hstep
        subst kb
        subst kb1
        have hX1 := Lib.hid (hexB_toNat (x := kk / 16) (by omega))
        have hX2 := Lib.hid (hexB_toNat (x := kk % 16) (by omega))
        have HQ2 := Lib.hid (show (acc ++ [92, 120, hexB (kk / 16), hexB (kk % 16)]) ++ flatQ asc gr (elemsOf (rest.drop 1)) = flatQ asc gr (elemsOf s) by rw [← hq.out, hstep, List.append_assoc])
        have hb := hbr.out
        unfold Buf at hb
        rw [hX] at hb
        have HX := Lib.hid hX
        have hlenA : n + 1 + acc.length + 10 ≤ 140737488355328 := by omega
        have hdl1 : (rest.drop 1).length = k - 1 := by rw [List.length_drop, ← HK.out]
        have HDL := Lib.hid hdl1
        have k16 : 0 ≤ (kk : Int) / 16 ∧ (kk : Int) / 16 < 16 := by omega
        have k17 : 0 ≤ (kk : Int) % 16 ∧ (kk : Int) % 16 < 16 := by omega
        clear hc0 hst hstep hkk hR hKK hRcp hRb hK1 hK2 hsl hdl h0 hk hel0 hX hdl1
        go_big_wp2_with (first
          | (go_at_call 73; refine cD.out.mono ?_; rintro e w1 ⟨rfl, hw1⟩; have hb := buf_belowQ hb hw1)
          | (at_builtin; first
            | (refine Lib.wpList_append_byte rfl _ _ 39 rfl B 5 i0 Tryd.underlying39 hi hz0 hz1 hz2 _ _ _ rfl W0 _ _ (by assumption) rfl (by first | omega | (simp only [Lib.size_two]; omega)) ?_; intro _ _ hb)
            | (refine Lib.wpList_append_text rfl _ _ 39 9 rfl B 5 i0 Tryd.underlying39 Tryd.underlying9 hi hz0 hz1 hz2 _ _ _ rfl W0 (by assumption) _ rfl (by first | omega | (simp only [Lib.size_two]; omega)) ?_; intro _ _ hb)))
        go_roundw
        case rel =>
          refine ⟨rest.drop 1, acc ++ [92, 120, hexB (kk / 16), hexB (kk % 16)], by rw [List.drop_one], ?_, HQ2.out, ?_⟩
          · show Lib.OwnBuf _ _ _ _ _ _ _
            rw [show ((l ++ [34] ++ (acc ++ [92, 120, hexB (kk / 16), hexB (kk % 16)]) : List UInt8)).length = n + 1 + acc.length + 2 + 1 + 1 by have := HX.out; simp at this ⊢; omega]
            simpa [bcells, Lib.strCells, Lib.size_two, Lib.lowerhex_at, hX1.out, hX2.out, List.append_assoc] using hb
          · rw [HDL.out]; simp; omega
        case measure =>
          show (str rest.tail).size < (str rest).size
          rw [size_str, eR, List.length_tail, ← HK.out]; omega
      · have hgood := decL_good (l := rest) (by rw [← hR, ← hKK]; exact hbad)
        rw [← hR, ← hKK] at hgood
        rw [hgood] at hstep
        simp only at hstep
        have hst : stQ asc gr (R : Int) = stayB asc gr (R : Int) := by simp [stQ]
        rw [hst] at hstep
        have hE10 := hel0 (stayB asc gr (R : Int)) (R : Int)
        obtain ⟨X, hXX⟩ : ∃ X, X = l ++ [34] ++ acc := ⟨_, rfl⟩
        rw [← hXX] at hbr hX
        have cE := Lib.hid (fun (w1 : World) (v : Value) (hb : Buf 5 B v X W0 w1) => appendEscapedRune_any B v X (R : Int) 34 asc gr W0 w1 hb (by omega) (HT.out.below (by have := hb.isBelow; rwa [HB.out] at this)) (HG.out.below (by have := hb.isBelow; rwa [HB.out] at this)) hRcp (.inl rfl))
        obtain ⟨E, hEE⟩ : ∃ E, E = elemL 34 (stayB asc gr (R : Int)) (R : Int) := ⟨_, rfl⟩
        rw [← hEE] at hstep hE10 cE
        have HQ2 := Lib.hid (show (acc ++ E) ++ flatQ asc gr (elemsOf (rest.drop K)) = flatQ asc gr (elemsOf s) by rw [← hq.out, hstep, List.append_assoc])
        have HXX := Lib.hid hXX
        have HDL := Lib.hid hdl
        have hbx := hbr.out
        obtain ⟨RI, hRI⟩ : ∃ RI : Int, RI = (R : Int) := ⟨_, rfl⟩
        obtain ⟨KI, hKI⟩ : ∃ KI : Int, KI = (K : Int) := ⟨_, rfl⟩
        rw [← hRI] at cD cE
        rw [← hKI] at cD hsl
        have r0 : 0 ≤ RI := by omega
        have r1 : RI ≤ 1114111 := by omega
        have kI0 : 1 ≤ KI := by omega
        have HKI := Lib.hid hKI
        by_cases hK1e : K = 1
        · have q1 : (KI == 1) = true := by simp; omega
          have q2 : (RI == 65533) = false := by simp; omega
          clear hR hKK hRcp hRb hK1 hK2 hdl h0 hk hel0 hX hstep hst hgood hXX hEE hRI hKI hbad hK1e
          go_big_wp2_with (first
            | (go_at_call 73; refine cD.out.mono ?_; rintro e w1 ⟨rfl, hw1⟩; have hb1 := hbx.below hw1)
            | (go_at_call 85; refine (cE.out _ _ hb1).mono ?_; rintro e w2 ⟨v2, rfl, hb2⟩))
          all_goals first | (exfalso; omega) | skip
          go_roundw
          case rel => exact ⟨rest.drop K, acc ++ E, rfl, by show Buf _ _ _ _ _ _; rw [show l ++ [34] ++ (acc ++ E) = X ++ E by rw [HXX.out]; simp]; exact hb2, HQ2.out, by rw [HDL.out]; have := HKI.out; simp; omega⟩
          case measure =>
            show (str (rest.drop K)).size < (str rest).size
            rw [size_str, eR, HDL.out]; have := HKI.out; omega
        · have q1 : (KI == 1) = false := by simp; omega
          clear hR hKK hRcp hRb hK1 hK2 hdl h0 hk hel0 hX hstep hst hgood hXX hEE hRI hKI hbad hK1e
          go_big_wp2_with (first
            | (go_at_call 73; refine cD.out.mono ?_; rintro e w1 ⟨rfl, hw1⟩; have hb1 := hbx.below hw1)
            | (go_at_call 85; refine (cE.out _ _ hb1).mono ?_; rintro e w2 ⟨v2, rfl, hb2⟩))
          all_goals first | (exfalso; omega) | skip
          go_roundw
          case rel => exact ⟨rest.drop K, acc ++ E, rfl, by show Buf _ _ _ _ _ _; rw [show l ++ [34] ++ (acc ++ E) = X ++ E by rw [HXX.out]; simp]; exact hb2, HQ2.out, by rw [HDL.out]; have := HKI.out; simp; omega⟩
          case measure =>
            show (str (rest.drop K)).size < (str rest).size
            rw [size_str, eR, HDL.out]; have := HKI.out; omega
set_option maxHeartbeats 4000000 in
theorem qw_any (s : List UInt8) (asc gr : Bool) (w : World) (hs : s.length ≤ 10485760) (hT : PrintT w) (hG : GraphicT w) (hU : Utf8T w) :
    Calls Tryd.prog 56 #[.string (str s), .int .u8 34, .bool asc, .bool gr] w fun e w' => e = .returned (.string (str (quoteL 34 (stQ asc gr) (elemsOf s)))) ∧ Below w.heap.size w w' := by
  obtain ⟨i0, hi, hz0, hz1, hz2⟩ := info_parts byte_info
  obtain ⟨m, hm⟩ : ∃ m, m = s.length := ⟨_, rfl⟩
  have eS : (str s).size = m := by rw [size_str, hm]
  obtain ⟨c, hc⟩ : ∃ c, c = 3 * m / 2 := ⟨_, rfl⟩
  have hcI : 3 * (m : Int) / 2 = (c : Int) := by omega
  have cQ := Lib.hid (fun w1 (hb : Buf 5 w.heap.size (.slice (some ⟨w.heap.size, 0, none⟩) 0 c) [] w w1) => aqw_room w.heap.size (some ⟨w.heap.size, 0, none⟩) c [] s asc gr w w1 hb (by simp; omega) (by omega) (by simp; omega) rfl hT hG hU)
  obtain ⟨L, hL⟩ : ∃ L, L = quoteL 34 (stQ asc gr) (elemsOf s) := ⟨_, rfl⟩
  simp only [List.nil_append, ← hL] at cQ
  rw [← hL]
  have hc2 : c ≤ 140737488355328 := by omega
  rw [← hm] at hs
  clear hT hG hU hL hm hc
  go_enter Tryd.func56, Tryd.ntmps56
  go_wp2_with (first
    | (at_make; refine wpList_make_own _ rfl _ _ 39 rfl w.heap.size 5 i0 (.int .u8 0) 1 Tryd.underlying39 hi hz0 hz1 _ _ _ c rfl rfl (by first | rfl | assumption) (by rw [hz2]; omega) (by unfold maxLen; omega) (Nat.le_refl _) ?_; intro w1 hown hg)
    | (go_at_call 66; refine (cQ.out _ ⟨World.ownsRowF_of hown, (Below.refl _ _).grown hg (Nat.le_refl _) (by intro k hk; cases hk), hg.size⟩).mono ?_; rintro e w2 ⟨v2, rfl, hb2⟩; obtain ⟨A2, c2, hv2, _, _, _⟩ := hb2.form; have hcv := conv_buf hb2; rw [hv2] at hcv ⊢))
  go_ret
  exact ⟨rfl, hb2.isBelow⟩
end Go.Proofs.YthbnglkpkgpojaaDoor
