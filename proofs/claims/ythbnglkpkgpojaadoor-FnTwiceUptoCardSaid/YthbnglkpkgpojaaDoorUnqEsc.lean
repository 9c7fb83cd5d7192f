/-
  Contracts: strconv.unquote at a quoted text in which something is escaped. Printed by wip/gen/unq.py.
-/
import Derived.Test.YthbnglkpkgpojaaDoorUnqBase
namespace Go.Proofs.YthbnglkpkgpojaaDoor
open Go.RowKit
set_option maxRecDepth 1000000
set_option linter.unusedVariables false
set_option linter.unusedSimpArgs false

set_option maxHeartbeats 16000000 in
theorem unq_esc34 {st : Int → Bool} (hs : OkSt st) (es : List Int) (hv : ∀ r ∈ es, valE r) (hn : ¬ ∀ r ∈ es, plainE 34 st r) (hlen : (quoteL 34 st es).length ≤ 100000000) (w : World) (hU : Utf8T w) :
    Calls Tryd.prog 58 #[.string (str (quoteL 34 st es)), .bool true] w fun e w' => e = .returned (unqV (es.flatMap bytesE)) ∧ Below w.heap.size w w' := by
  obtain ⟨i0, hi, hz0, hz1, hz2⟩ := info_parts byte_info
  obtain ⟨p, hp1, hp2, o, ho⟩ := unq_escaped hs (q := 34) (.inl rfl) es hv hn
  obtain ⟨R, hR⟩ : ∃ R, R = flatE 34 st es ++ [34] := ⟨_, rfl⟩
  have hin : quoteL 34 st es = 34 :: R := by rw [hR]; rfl
  have hRl : R.length = (flatE 34 st es).length + 1 := by rw [hR]; simp
  rw [hin] at hlen ho ⊢
  rw [show flatE 34 st es ++ [byteZ 34] = R from hR.symm, show byteZ 34 = 34 from rfl] at hp1
  have hidx := idx_str0 (P := Tryd.prog) 9 Tryd.underlying9 (l := 34 :: R) (c := 34) rfl
  rw [show (((34 : UInt8).toNat : Nat) : Int) = 34 from rfl] at hidx
  have hsl1 := slice_str1 (P := Tryd.prog) 9 Tryd.underlying9 (34 :: R) (by simp)
  rw [show (34 :: R).drop 1 = R from rfl] at hsl1
  have hto := fun wx => slice_str_to (P := Tryd.prog) 9 Tryd.underlying9 .i64 (34 :: R) (p + 2) (by simp; omega) wx
  have CI := Lib.hid (index_any R 34 34 rfl w)
  rw [hp1] at CI
  have CC := Lib.hid (contains_any ((34 :: R).take (p + 2)) 92 92 rfl true (by rw [ho]; simp) w)
  obtain ⟨X, hX⟩ : ∃ X, X = (34 :: R).take (p + 2) := ⟨_, rfl⟩
  rw [← hX] at hto CC
  obtain ⟨n, hnn⟩ : ∃ n, n = (34 :: R).length := ⟨_, rfl⟩
  have eL : (str (34 :: R)).size = n := by rw [size_str, hnn]
  have n2 : 2 ≤ n := by rw [hnn]; simp; omega
  rw [← hnn] at hlen
  have hpn : p + 2 ≤ n := by rw [hnn]; simp; omega
  rw [show ((p + 2 : Nat) : Int) = (p : Int) + 2 by omega] at hto
  obtain ⟨l, hl⟩ : ∃ l, l = 34 :: R := ⟨_, rfl⟩
  rw [← hl] at hidx hsl1 hto eL ⊢
  obtain ⟨c, hc⟩ : ∃ c, c = 3 * (p + 2) / 2 := ⟨_, rfl⟩
  have hcI : 3 * ((p : Int) + 2) / 2 = (c : Int) := by omega
  have hc2 : c ≤ 140737488355328 := by omega
  obtain ⟨ANS, hA⟩ : ∃ L, L = es.flatMap bytesE := ⟨_, rfl⟩
  have HA := Lib.hid hA
  rw [← hA]
  have hRn : R.length < n := by rw [hnn]; simp
  have HR := Lib.hid hR
  have HV := Lib.hid hv
  have HU := Lib.hid hU
  have HS := Lib.hid hs
  clear hp1 hp2 ho hn hin hRl hX hnn hl hc hA hR hv hU hs
  go_enter Tryd.func58, Tryd.ntmps58
  go_big_wp2_with (first
    | (go_at_call 70; refine CI.out.mono ?_; rintro e w1 ⟨rfl, rfl⟩)
    | (go_at_call 71; refine CC.out.mono ?_; rintro e w1 ⟨rfl, rfl⟩)
    | (at_make; refine wpList_make_own _ rfl _ _ 39 rfl w.heap.size 5 i0 (.int .u8 0) 1 Tryd.underlying39 hi hz0 hz1 _ _ _ c rfl rfl (by first | rfl | assumption) (by rw [hz2]; omega) (by unfold maxLen; omega) (Nat.le_refl _) ?_; intro w1 hown hg))
  have Hb0 := Lib.hid (show Buf 5 w.heap.size (.slice (some ⟨w.heap.size, 0, none⟩) 0 c) [] w w1 from ⟨World.ownsRowF_of hown, (Below.refl _ _).grown hg (Nat.le_refl _) (by intro k hk; cases hk), hg.size⟩)
  clear hown hg
  go_loopw [0, 14] (fun vs vb wr => ∃ (rs : List Int) (acc : List UInt8), vs = .string (str (flatE 34 st rs ++ [34])) ∧ Hid (Buf 5 w.heap.size vb acc w wr) ∧ Hid (acc ++ rs.flatMap bytesE = ANS) ∧ Hid (∀ r ∈ rs, valE r) ∧ acc.length + 4 * (flatE 34 st rs ++ [34]).length ≤ 4 * n) (fun vs _ _ => strLenU vs)
  case atStart => exact ⟨es, [], by rw [← HR.out], Hb0.out, by show [] ++ _ = _; rw [List.nil_append, HA.out], HV.out, by rw [← HR.out]; simp; omega⟩
  case round =>
    obtain ⟨rs, acc, rfl, hbr, hq, hvr, hl4⟩ := hrel
    have hBel : Below w.heap.size w wr := hbr.out.isBelow
    cases rs with
    | nil =>
      have hfin := hq.out
      rw [List.flatMap_nil, List.append_nil] at hfin
      subst hfin
      have i1 := idx_str0 (P := Tryd.prog) 9 Tryd.underlying9 (l := flatE 34 st [] ++ [34]) (c := 34) rfl
      rw [show (((34 : UInt8).toNat : Nat) : Int) = 34 from rfl] at i1
      have s1 := slice_str1 (P := Tryd.prog) 9 Tryd.underlying9 (flatE 34 st [] ++ [34]) (by simp)
      rw [show List.drop 1 (flatE 34 st [] ++ [34] : List UInt8) = [] from rfl] at s1
      have e1 : (str (flatE 34 st [] ++ [34])).size = 1 := by rw [size_str]; rfl
      have hcv := conv_bufU hbr.out
      obtain ⟨Y, hY⟩ : ∃ Y, Y = flatE 34 st [] ++ [34] := ⟨_, rfl⟩
      rw [← hY] at i1 s1 e1 ⊢
      clear hY hl4
      go_big_wp2_with fail
      all_goals first | (exfalso; omega) | skip
      go_ret3
      exact ⟨rfl, hBel⟩
    | cons r rs =>
      have hv1 := hvr.out r (List.mem_cons_self ..)
      have HV2 := Lib.hid (show ∀ x ∈ rs, valE x from fun x hx => hvr.out x (List.mem_cons_of_mem _ hx))
      rw [flatE_cons, List.append_assoc] at hl4 ⊢
      obtain ⟨c0, hc0, hc1, hc2'⟩ := elem_head (.inl rfl) HS.out hv1 (flatE 34 st rs ++ [34])
      have i1 := idx_str0 (P := Tryd.prog) 9 Tryd.underlying9 hc0
      have hE1 := (elemL_length 34 (st r) r).1
      have HQ2 := Lib.hid (show (acc ++ bytesE r) ++ rs.flatMap bytesE = ANS by rw [← hq.out, List.flatMap_cons, List.append_assoc])
      obtain ⟨t, ht⟩ : ∃ t, t = flatE 34 st rs ++ [34] := ⟨_, rfl⟩
      rw [← ht] at i1 hl4 ⊢
      rw [List.length_append] at hl4
      have CU := Lib.hid (uc_elem HS.out hv1 t (by omega) 34 (.inl rfl) wr (HU.out.below hBel))
      obtain ⟨k, hk⟩ : ∃ k, k = (elemL 34 (st r) r ++ t).length := ⟨_, rfl⟩
      have hkt : t.length < k := by rw [hk, List.length_append]; omega
      have e1 : (str (elemL 34 (st r) r ++ t)).size = k := by rw [size_str, hk]
      have hk4 : acc.length + 4 * k ≤ 4 * n := by rw [hk, List.length_append]; omega
      obtain ⟨y, hy⟩ : ∃ y : Int, y = (c0.toNat : Int) := ⟨_, rfl⟩
      rw [← hy] at i1 hc1 hc2'
      have y1 : (y == 34) = false := by simpa using hc1
      have y2 : (y == 10) = false := by simpa using hc2'
      have HT := Lib.hid ht
      obtain ⟨Y, hY⟩ : ∃ Y, Y = elemL 34 (st r) r ++ t := ⟨_, rfl⟩
      rw [← hY] at i1 e1 CU ⊢
      have hbl : acc.length + 4 ≤ 140737488355328 := by omega
      by_cases h128 : 128 ≤ r
      · have hcp := hv1.resolve_left (by omega)
        have eN : numE r = r := by rw [numE, if_neg (by omega)]
        have eB : bytesE r = encL r := by rw [bytesE, if_neg (by omega)]
        rw [eN, show decide (128 ≤ r) = true by simpa using h128] at CU
        rw [eB] at HQ2
        have CA := Lib.hid (fun (W : World) (vb : Value) (h : Buf 5 w.heap.size vb acc w W) => appendRune_buf hcp hbl W h)
        have hrl := (encL_length r).2
        have hr0 : ¬ r < 128 := by omega
        have hb0 := hbr.out
        clear hc0 hy hc1 hc2' ht hk hY hv1 hq hvr hE1 hl4 eN eB hcp
        go_big_wp2_with (first
          | (go_at_call 74; refine CU.out.mono ?_; unfold ucV; rintro e w2 ⟨rfl, hw2⟩; have hb2 := hb0.below hw2)
          | (go_at_call 75; refine (CA.out _ _ hb2).mono ?_; rintro e w3 ⟨v3, rfl, hb3⟩))
        all_goals first | (exfalso; omega) | skip
        go_roundw
        case rel => exact ⟨rs, acc ++ encL r, by rw [← HT.out], hb3, HQ2.out, HV2.out, by rw [← HT.out, List.length_append]; omega⟩
        case measure =>
          show (str t).size < (str Y).size
          rw [size_str, e1]; exact hkt
      · have eN : bytesE r = [byteZ (numE r)] := by
          unfold bytesE numE
          split
          · rfl
          · exact encL_small (by omega)
        have nb : 0 ≤ numE r ∧ numE r ≤ 255 := by
          unfold numE
          have := valE_ge hv1
          split
          · omega
          · omega
        have eZ := byteZ_toNat nb.1 nb.2
        rw [show decide (128 ≤ r) = false by simpa using h128] at CU
        rw [eN] at HQ2
        obtain ⟨z, hz⟩ : ∃ z, z = numE r := ⟨_, rfl⟩
        rw [← hz] at CU eZ nb HQ2
        obtain ⟨nb0, nb1⟩ := nb
        have hw8 : IntKind.u8.wrap z = z := by simp [IntKind.wrap, IntKind.bits, IntKind.signed]; omega
        have hb0 := hbr.out
        have hbl1 : acc.length + 1 ≤ 140737488355328 := by omega
        have EZ := Lib.hid eZ.symm
        clear hc0 hy hc1 hc2' ht hk hY hv1 hq hvr hE1 hl4 eN hz h128 eZ
        by_cases z128 : z < 128
        all_goals (
          go_big_wp2_with (first
            | (go_at_call 74; refine CU.out.mono ?_; unfold ucV; rintro e w2 ⟨rfl, hw2⟩; have hb2 := hb0.below hw2)
            | (at_builtin; refine wpList_buf_byte rfl _ _ 39 rfl w.heap.size 5 i0 Tryd.underlying39 hi hz0 hz1 hz2 _ acc rfl w _ _ (byteZ z) EZ.out (by assumption) rfl hbl1 ?_; intro v3 w3 hb3))
          all_goals first | (exfalso; omega) | skip
          go_roundw
          case rel => exact ⟨rs, acc ++ [byteZ z], by rw [← HT.out], hb3, HQ2.out, HV2.out, by rw [← HT.out, List.length_append]; simp; omega⟩
          case measure =>
            show (str t).size < (str Y).size
            rw [size_str, e1]; exact hkt)
set_option maxHeartbeats 16000000 in
theorem unq_esc39 {st : Int → Bool} (hs : OkSt st) (r : Int) (hvr : valE r) (hn : ¬ ∀ x ∈ [r], plainE 39 st x) (hlen : (quoteL 39 st [r]).length ≤ 100000000) (w : World) (hU : Utf8T w) :
    Calls Tryd.prog 58 #[.string (str (quoteL 39 st [r])), .bool true] w fun e w' => e = .returned (unqV ([r].flatMap bytesE)) ∧ Below w.heap.size w w' := by
  have hv : ∀ x ∈ [r], valE x := fun x hx => by
    have e : x = r := by simpa using hx
    rw [e]; exact hvr
  obtain ⟨i0, hi, hz0, hz1, hz2⟩ := info_parts byte_info
  obtain ⟨p, hp1, hp2, o, ho⟩ := unq_escaped hs (q := 39) (.inr rfl) [r] hv hn
  obtain ⟨R, hR⟩ : ∃ R, R = flatE 39 st [r] ++ [39] := ⟨_, rfl⟩
  have hin : quoteL 39 st [r] = 39 :: R := by rw [hR]; rfl
  have hRl : R.length = (flatE 39 st [r]).length + 1 := by rw [hR]; simp
  rw [hin] at hlen ho ⊢
  rw [show flatE 39 st [r] ++ [byteZ 39] = R from hR.symm, show byteZ 39 = 39 from rfl] at hp1
  have hidx := idx_str0 (P := Tryd.prog) 9 Tryd.underlying9 (l := 39 :: R) (c := 39) rfl
  rw [show (((39 : UInt8).toNat : Nat) : Int) = 39 from rfl] at hidx
  have hsl1 := slice_str1 (P := Tryd.prog) 9 Tryd.underlying9 (39 :: R) (by simp)
  rw [show (39 :: R).drop 1 = R from rfl] at hsl1
  have hto := fun wx => slice_str_to (P := Tryd.prog) 9 Tryd.underlying9 .i64 (39 :: R) (p + 2) (by simp; omega) wx
  have CI := Lib.hid (index_any R 39 39 rfl w)
  rw [hp1] at CI
  have CC := Lib.hid (contains_any ((39 :: R).take (p + 2)) 92 92 rfl true (by rw [ho]; simp) w)
  obtain ⟨X, hX⟩ : ∃ X, X = (39 :: R).take (p + 2) := ⟨_, rfl⟩
  rw [← hX] at hto CC
  obtain ⟨n, hnn⟩ : ∃ n, n = (39 :: R).length := ⟨_, rfl⟩
  have eL : (str (39 :: R)).size = n := by rw [size_str, hnn]
  have n2 : 2 ≤ n := by rw [hnn]; simp; omega
  rw [← hnn] at hlen
  have hpn : p + 2 ≤ n := by rw [hnn]; simp; omega
  rw [show ((p + 2 : Nat) : Int) = (p : Int) + 2 by omega] at hto
  obtain ⟨l, hl⟩ : ∃ l, l = 39 :: R := ⟨_, rfl⟩
  rw [← hl] at hidx hsl1 hto eL ⊢
  obtain ⟨c, hc⟩ : ∃ c, c = 3 * (p + 2) / 2 := ⟨_, rfl⟩
  have hcI : 3 * ((p : Int) + 2) / 2 = (c : Int) := by omega
  have hc2 : c ≤ 140737488355328 := by omega
  obtain ⟨ANS, hA⟩ : ∃ L, L = [r].flatMap bytesE := ⟨_, rfl⟩
  have HA := Lib.hid hA
  rw [← hA]
  have hRn : R.length < n := by rw [hnn]; simp
  have HR := Lib.hid hR
  have HV := Lib.hid hv
  have HU := Lib.hid hU
  have HS := Lib.hid hs
  clear hp1 hp2 ho hn hin hRl hX hnn hl hc hA hR hv hU hs
  go_enter Tryd.func58, Tryd.ntmps58
  go_big_wp2_with (first
    | (go_at_call 70; refine CI.out.mono ?_; rintro e w1 ⟨rfl, rfl⟩)
    | (go_at_call 71; refine CC.out.mono ?_; rintro e w1 ⟨rfl, rfl⟩)
    | (at_make; refine wpList_make_own _ rfl _ _ 39 rfl w.heap.size 5 i0 (.int .u8 0) 1 Tryd.underlying39 hi hz0 hz1 _ _ _ c rfl rfl (by first | rfl | assumption) (by rw [hz2]; omega) (by unfold maxLen; omega) (Nat.le_refl _) ?_; intro w1 hown hg))
  have Hb0 := Lib.hid (show Buf 5 w.heap.size (.slice (some ⟨w.heap.size, 0, none⟩) 0 c) [] w w1 from ⟨World.ownsRowF_of hown, (Below.refl _ _).grown hg (Nat.le_refl _) (by intro k hk; cases hk), hg.size⟩)
  clear hown hg
  have hRe : R = elemL 39 (st r) r ++ [39] := by rw [HR.out, flatE_cons]; simp [flatE]
  obtain ⟨c0, hc0, hc1, hc2'⟩ := elem_head (.inr rfl) HS.out hvr [39]
  rw [← hRe] at hc0
  have i1 := idx_str0 (P := Tryd.prog) 9 Tryd.underlying9 hc0
  have i2 := idx_str0 (P := Tryd.prog) 9 Tryd.underlying9 (l := [39]) (c := 39) rfl
  rw [show (((39 : UInt8).toNat : Nat) : Int) = 39 from rfl] at i2
  have s2 := slice_str1 (P := Tryd.prog) 9 Tryd.underlying9 [39] (by simp)
  rw [show ([39] : List UInt8).drop 1 = [] from rfl] at s2
  have e2 : (str [39]).size = 1 := by rw [size_str]; rfl
  have hE1 := (elemL_length 39 (st r) r).1
  obtain ⟨k, hk⟩ : ∃ k, k = R.length := ⟨_, rfl⟩
  have k2 : 2 ≤ k := by rw [hk, hRe]; simp; omega
  have e1 : (str R).size = k := by rw [size_str, hk]
  have CU := Lib.hid (fun wx (hb : Below w.heap.size w wx) => uc_elem HS.out hvr [39] (by simp) 39 (.inr rfl) wx (HU.out.below hb))
  rw [← hRe] at CU
  obtain ⟨y, hy⟩ : ∃ y : Int, y = (c0.toNat : Int) := ⟨_, rfl⟩
  rw [← hy] at i1 hc1 hc2'
  have y1 : (y == 39) = false := by simpa using hc1
  have y2 : (y == 10) = false := by simpa using hc2'
  obtain ⟨Y, hY⟩ : ∃ Y : List UInt8, Y = [39] := ⟨_, rfl⟩
  rw [← hY] at i2 s2 e2 CU
  have hA1 := HA.out
  rw [show [r].flatMap bytesE = bytesE r by simp] at hA1
  have hv1 := hvr
  go_loopw [0, 14] (fun vs vb wr => vs = .string (str R) ∧ vb = .slice (some ⟨w.heap.size, 0, none⟩) 0 c ∧ Hid (Buf 5 w.heap.size vb [] w wr)) (fun _ _ _ => 0)
  case atStart => exact ⟨rfl, rfl, Hb0.out⟩
  case round =>
    obtain ⟨rfl, rfl, hbr⟩ := hrel
    have hBel : Below w.heap.size w wr := hbr.out.isBelow
    by_cases h128 : 128 ≤ r
    · have hcp := hv1.resolve_left (by omega)
      have eN : numE r = r := by rw [numE, if_neg (by omega)]
      have eB : bytesE r = encL r := by rw [bytesE, if_neg (by omega)]
      rw [eN, show decide (128 ≤ r) = true by simpa using h128] at CU
      rw [eB] at hA1
      have CA := Lib.hid (fun (W : World) (vb : Value) (h : Buf 5 w.heap.size vb [] w W) => appendRune_buf (l := []) hcp (by simp) W h)
      have hr0 : ¬ r < 128 := by omega
      have hb0 := hbr.out
      rw [List.nil_append, ← hA1] at CA
      clear hc0 hy hc1 hc2' hk hY hv1 hE1 eN eB hcp hA1 hRe hvr
      go_big_wp2_with (first
        | (go_at_call 74; refine (CU.out _ hBel).mono ?_; unfold ucV; rintro e w2 ⟨rfl, hw2⟩; have hb2 := hb0.below hw2)
        | (go_at_call 75; refine (CA.out _ _ hb2).mono ?_; rintro e w3 ⟨v3, rfl, hb3⟩; have hcv := conv_bufU hb3))
      all_goals first | (exfalso; omega) | skip
      go_ret3
      exact ⟨rfl, hb3.isBelow⟩
    · have eN : bytesE r = [byteZ (numE r)] := by
        unfold bytesE numE
        split
        · rfl
        · exact encL_small (by omega)
      have nb : 0 ≤ numE r ∧ numE r ≤ 255 := by
        unfold numE
        have := valE_ge hv1
        split
        · omega
        · omega
      have eZ := byteZ_toNat nb.1 nb.2
      rw [show decide (128 ≤ r) = false by simpa using h128] at CU
      rw [eN] at hA1
      obtain ⟨z, hz⟩ : ∃ z, z = numE r := ⟨_, rfl⟩
      rw [← hz] at CU eZ nb hA1
      obtain ⟨nb0, nb1⟩ := nb
      have hw8 : IntKind.u8.wrap z = z := by simp [IntKind.wrap, IntKind.bits, IntKind.signed]; omega
      have hb0 := hbr.out
      have EZ := Lib.hid eZ.symm
      have HA1 := Lib.hid hA1
      clear hc0 hy hc1 hc2' hk hY hv1 hE1 eN hz h128 eZ hA1 hRe hvr
      by_cases z128 : z < 128
      all_goals (
        go_big_wp2_with (first
          | (go_at_call 74; refine (CU.out _ hBel).mono ?_; unfold ucV; rintro e w2 ⟨rfl, hw2⟩; have hb2 := hb0.below hw2)
          | (at_builtin; refine wpList_buf_byte rfl _ _ 39 rfl w.heap.size 5 i0 Tryd.underlying39 hi hz0 hz1 hz2 _ [] rfl w _ _ (byteZ z) EZ.out (by assumption) rfl (by simp) ?_; intro v3 w3 hb3; rw [List.nil_append, ← HA1.out] at hb3; have hcv := conv_bufU hb3))
        all_goals first | (exfalso; omega) | skip
        go_ret3
        exact ⟨rfl, hb3.isBelow⟩)
end Go.Proofs.YthbnglkpkgpojaaDoor
